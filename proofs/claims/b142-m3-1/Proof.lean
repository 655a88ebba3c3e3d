import JvmDerived
import JvmDerived.Pilot.@@N@@Statement
import JvmDerived.Pilot.@@N@@Code
set_option linter.unusedVariables false
set_option linter.unusedSimpArgs false
/- laws to paste: pair_says, chr8_lo8, narrow_ch, shr0 (cut by pick.py; bodies as the Statement names them) -/
namespace Jvm.Pilot.@@N@@
namespace StrChars
open Jvm Sem ClassFile Op Lib Jvm.Stand Jvm.Free.XT Jvm.Free.ALB Jvm.Free.JM Jvm.Free
open Jvm.Lib.Cold (StaticIs)
/-- the byte that i2b leaves of a char -/
def lo8 (x : Int32) : Int32 := x.toInt8.toInt32
/-- the byte, read back as charAt reads it, is the char -/
theorem lo8_mask {x : Int32} (h0 : ¬ x < 0) (h1 : ¬ 255 < x) : lo8 x &&& 255 = x := by
  have t : ∀ k : Fin 256, lo8 (Int32.ofNat k.val) &&& 255 = Int32.ofNat k.val := by decide +kernel
  rw [Int32.lt_iff_toInt_lt] at h0 h1
  have e0 : (0 : Int32).toInt = 0 := rfl
  have e1 : (255 : Int32).toInt = 255 := rfl
  obtain ⟨k, hk⟩ : ∃ k : Nat, x.toInt = k := ⟨x.toInt.toNat, by omega⟩
  have hx : x = Int32.ofNat k := Int32.toInt_inj.mp (by rw [hk, Int32.toInt_ofNat_small (by omega)])
  rw [hx]
  exact t ⟨k, by omega⟩
end StrChars
namespace StrChars
open Jvm Sem ClassFile Op Lib Jvm.Stand Jvm.Free.XT Jvm.Free.ALB Jvm.Free.JM Jvm.Free
open Jvm.Lib.Cold (StaticIs)
def hi8 (x : Int32) : Int32 := lo8 (x >>> ((8 : Int32) &&& 31))
/-- what StringUTF16.getChar makes of two bytes -/
def pairCh (u v : Int32) : Int32 := (((u &&& 255) <<< ((0 : Int32) &&& 31)) ||| ((v &&& 255) <<< ((8 : Int32) &&& 31))).toUInt32.toUInt16.toUInt32.toInt32
theorem shr0 (c : Int32) : c >>> ((0 : Int32) &&& 31) = c := by
  have e : ((0 : Int32) &&& 31) = 0 := by decide
  rw [e]
  apply Int32.toBitVec_inj.mp
  rw [Int32.toBitVec_shiftRight]
  have e1 : ((0 : Int32).toBitVec.smod 32) = 0#32 := by decide
  rw [e1, BitVec.sshiftRight_eq']
  exact BitVec.sshiftRight_zero
theorem lo8_and (x : Int32) : (lo8 x &&& 255).toBitVec.toNat = x.toBitVec.toNat % 256 := by
  have h : (lo8 x).toBitVec = (x.toBitVec.signExtend 8).signExtend 32 := by rw [lo8, Int8.toBitVec_toInt32, Int32.toBitVec_toInt8]
  rw [Int32.toBitVec_and, BitVec.toNat_and, h]
  have e : ((x.toBitVec.signExtend 8).signExtend 32).toNat % 256 = x.toBitVec.toNat % 256 := by
    rw [BitVec.toNat_signExtend]
    have hlt := x.toBitVec.isLt
    simp only [BitVec.toNat_setWidth, BitVec.toNat_signExtend]
    split <;> split <;> omega
  rw [← e]
  exact Nat.and_two_pow_sub_one_eq_mod _ 8
theorem pair_says {c : Int32} (h0 : ¬ c < 0) (h1 : ¬ 65535 < c) : pairCh (lo8 c) (hi8 c) = c := by
  rw [Int32.lt_iff_toInt_lt] at h0 h1
  have e0 : (0 : Int32).toInt = 0 := rfl
  have e1 : (65535 : Int32).toInt = 65535 := rfl
  have hc : c.toInt = c.toBitVec.toNat := by
    have := c.toBitVec.isLt
    have e : c.toInt = c.toBitVec.toInt := rfl
    rw [e] at h0 h1
    rw [e]
    rw [BitVec.toInt_eq_toNat_cond] at h0 h1 ⊢
    split at h0 <;> split <;> omega
  have hn : c.toBitVec.toNat < 65536 := by omega
  have a1 := lo8_and c
  have a2 : (hi8 c &&& 255).toBitVec.toNat = c.toBitVec.toNat / 256 := by
    rw [hi8, lo8_and]
    have e : ((8 : Int32) &&& 31) = 8 := by decide
    rw [e, Int32.toBitVec_shiftRight]
    have e2 : ((8 : Int32).toBitVec.smod 32) = 8#32 := by decide
    rw [e2, BitVec.sshiftRight_eq', BitVec.toNat_sshiftRight_of_msb_false (by rw [BitVec.msb_eq_false_iff_two_mul_lt]; omega)]
    show c.toBitVec.toNat >>> 8 % 256 = _
    rw [Nat.shiftRight_eq_div_pow]
    omega
  unfold pairCh
  apply Int32.toBitVec_inj.mp
  apply BitVec.eq_of_toNat_eq
  have f0 : ((0 : Int32) &&& 31) = 0 := by decide
  have f8 : ((8 : Int32) &&& 31) = 8 := by decide
  rw [f0, f8]
  have g : (((lo8 c &&& 255) <<< (0 : Int32)) ||| ((hi8 c &&& 255) <<< (8 : Int32))).toBitVec.toNat = c.toBitVec.toNat := by
    rw [Int32.toBitVec_or, Int32.toBitVec_shiftLeft, Int32.toBitVec_shiftLeft]
    have s0 : ((0 : Int32).toBitVec.smod 32) = 0#32 := by decide
    have s8 : ((8 : Int32).toBitVec.smod 32) = 8#32 := by decide
    rw [s0, s8, BitVec.toNat_or]
    simp only [BitVec.shiftLeft_eq', BitVec.toNat_shiftLeft, a1, a2]
    show (c.toBitVec.toNat % 256) <<< 0 % 2 ^ 32 ||| (c.toBitVec.toNat / 256) <<< 8 % 2 ^ 32 = _
    rw [Nat.shiftLeft_zero, Nat.mod_eq_of_lt (show c.toBitVec.toNat % 256 < 2 ^ 32 by omega), Nat.mod_eq_of_lt (show (c.toBitVec.toNat / 256) <<< 8 < 2 ^ 32 by rw [Nat.shiftLeft_eq]; omega), Nat.or_comm, ← Nat.shiftLeft_add_eq_or_of_lt (by omega), Nat.shiftLeft_eq]
    omega
  show BitVec.toNat (((((lo8 c &&& 255) <<< (0 : Int32)) ||| ((hi8 c &&& 255) <<< (8 : Int32))).toBitVec.setWidth 16).setWidth 32) = _
  rw [BitVec.toNat_setWidth, BitVec.toNat_setWidth, g]
  omega
end StrChars
namespace StrChars
open Jvm Sem ClassFile Op Lib Jvm.Stand Jvm.Free.XT Jvm.Free.ALB Jvm.Free.JM Jvm.Free
open Jvm.Lib.Cold (StaticIs)
/-- charAt's cast of a byte read back -/
def chr8 (u : Int32) : Int32 := (u &&& 255).toUInt32.toUInt16.toUInt32.toInt32
theorem chr8_lo8 {c : Int32} (h0 : ¬ c < 0) (h1 : ¬ 255 < c) : chr8 (lo8 c) = c := by
  have t : ∀ k : Fin 256, (Int32.ofNat k.val).toUInt32.toUInt16.toUInt32.toInt32 = Int32.ofNat k.val := by decide +kernel
  unfold chr8
  rw [lo8_mask h0 h1]
  rw [Int32.lt_iff_toInt_lt] at h0 h1
  have e0 : (0 : Int32).toInt = 0 := rfl
  have e1 : (255 : Int32).toInt = 255 := rfl
  obtain ⟨k, hk⟩ : ∃ k : Nat, c.toInt = k := ⟨c.toInt.toNat, by omega⟩
  have hx : c = Int32.ofNat k := Int32.toInt_inj.mp (by rw [hk, Int32.toInt_ofNat_small (by omega)])
  rw [hx]
  exact t ⟨k, by omega⟩
theorem narrow_ch {c : Int32} (h0 : ¬ c < 0) (h1 : ¬ 65535 < c) : narrow .char (.int c) = .int c := by
  have q : narrow .char (.int (pairCh (lo8 c) (hi8 c))) = .int (pairCh (lo8 c) (hi8 c)) := narrow_c _
  rwa [pair_says h0 h1] at q
end StrChars
end Jvm.Pilot.@@N@@
namespace Jvm.Pilot.@@N@@
open Jvm Jvm.ClassFile Sem Op Lib Jvm.Free Jvm.Stand Jvm.LawKit Jvm.RoadKit Bundle Jvm.Pilot.@@N@@.Jvm.D
section OwnKit
variable {p : Program} {l : Launch} {e : Env} {R : Room} {s : State} {m : MethodId} {args : Array Value} {below : List Frame} {meth : Method} {c : Code} {T : State} {locs : List Loc} {cells slots : Nat} {Z : State} {a0 : Array Value} {h : Heap} {Q : Option Value → Heap → List Loc → Prop} {rc rs : Nat} {S S' : State}
/-- from S the body ends well -/
def own_go (p : Program) (e : Env) (below : List Frame) (s : State) (Q : Option Value → Heap → List Loc → Prop) (rc rs : Nat) (S : State) : Prop :=
  ∃ s₂ o, Steps p.tables e below S s₂ ∧ s₂.status = .running ∧ Ended s₂ below o ∧ ∃ v L, o = .returned v ∧ Q v s₂.heap L ∧ FrameEnd s o s₂ L rc rs
theorem oS (k : ∀ t, Steps p.tables e below S' t → Steps p.tables e below S t) (g : own_go p e below s Q rc rs S') : own_go p e below s Q rc rs S := by
  obtain ⟨s₂, o, h1, h2⟩ := g
  exact ⟨s₂, o, k _ h1, h2⟩
theorem own_ret (X : Stand p l e R s m args below meth c T locs cells slots) (hx : p.tables.exec = Jvm.exec) (hlk : meth.locks = false) {pc : Nat} {Ls : Array Slot} {w : Value} {t : FieldType} {i : Instr} {rest : List Value} (hret : meth.sig.returnType = some t) (hn : narrow t w = w)
    (hi : (i = .ireturn ∧ (t = .int ∨ t = .boolean ∨ t = .byte ∨ t = .char ∨ t = .short) ∧ ∃ z, w = .int z) ∨ (i = .lreturn ∧ t = .long ∧ ∃ z, w = .long z) ∨ (i = .dreturn ∧ t = .double ∧ ∃ z, w = .double z) ∨ (i = .freturn ∧ t = .float ∧ ∃ z, w = .float z) ∨ (i = .areturn ∧ t.isReference = true ∧ w.isRef = true))
    (hd : decode c.code pc = .ok (i, 1)) (hc : cells ≤ rc) (hs : slots ≤ rs) (hQ : Q (some w) T.heap locs) : own_go p e below s Q rc rs (T.setTop (mkF m pc Ls (w :: rest))) := by
  obtain ⟨fs, hr, hrun, hended, hW, hsame⟩ := X.leave (v := some w) (fun h => by rw [hret] at h; cases h) hlk
  exact ⟨_, _, retOut X hx hret hn hi hd hr, hrun, hended, _, _, rfl, hQ, ⟨_, rfl⟩, hW, hsame.mono hc hs⟩
theorem own_retI (X : Stand p l e R s m args below meth c T locs cells slots) (hx : p.tables.exec = Jvm.exec) (hlk : meth.locks = false) {pc : Nat} {Ls : Array Slot} {z : Int32} {rest : List Value} (hret : meth.sig.returnType = some .int)
    (hd : decode c.code pc = .ok (.ireturn, 1)) (hc : cells ≤ rc) (hs : slots ≤ rs) (hQ : Q (some (.int z)) T.heap locs) : own_go p e below s Q rc rs (T.setTop (mkF m pc Ls (.int z :: rest))) :=
  own_ret X hx hlk hret rfl (Or.inl ⟨rfl, Or.inl rfl, z, rfl⟩) hd hc hs hQ
theorem own_retN (X : Stand p l e R s m args below meth c T locs cells slots) (hx : p.tables.exec = Jvm.exec) (hlk : meth.locks = false) {pc : Nat} {Ls : Array Slot} {z : Int32} {t : FieldType} {rest : List Value} (hret : meth.sig.returnType = some t) (ht : t = .boolean ∨ t = .byte ∨ t = .char ∨ t = .short) (hn : narrow t (.int z) = .int z)
    (hd : decode c.code pc = .ok (.ireturn, 1)) (hc : cells ≤ rc) (hs : slots ≤ rs) (hQ : Q (some (.int z)) T.heap locs) : own_go p e below s Q rc rs (T.setTop (mkF m pc Ls (.int z :: rest))) :=
  own_ret X hx hlk hret hn (Or.inl ⟨rfl, Or.inr ht, z, rfl⟩) hd hc hs hQ
theorem own_retJ (X : Stand p l e R s m args below meth c T locs cells slots) (hx : p.tables.exec = Jvm.exec) (hlk : meth.locks = false) {pc : Nat} {Ls : Array Slot} {z : Int64} {rest : List Value} (hret : meth.sig.returnType = some .long)
    (hd : decode c.code pc = .ok (.lreturn, 1)) (hc : cells ≤ rc) (hs : slots ≤ rs) (hQ : Q (some (.long z)) T.heap locs) : own_go p e below s Q rc rs (T.setTop (mkF m pc Ls (.long z :: rest))) :=
  own_ret X hx hlk hret rfl (Or.inr (Or.inl ⟨rfl, rfl, z, rfl⟩)) hd hc hs hQ
theorem own_retA (X : Stand p l e R s m args below meth c T locs cells slots) (hx : p.tables.exec = Jvm.exec) (hlk : meth.locks = false) {pc : Nat} {Ls : Array Slot} {w : Value} {t : FieldType} {rest : List Value} (hret : meth.sig.returnType = some t) (ht : t.isReference = true) (hw : w.isRef = true)
    (hd : decode c.code pc = .ok (.areturn, 1)) (hc : cells ≤ rc) (hs : slots ≤ rs) (hQ : Q (some w) T.heap locs) : own_go p e below s Q rc rs (T.setTop (mkF m pc Ls (w :: rest))) :=
  own_ret X hx hlk hret (by cases w <;> cases t <;> first | rfl | (simp [Value.isRef] at hw; done) | (simp [FieldType.isReference] at ht; done)) (Or.inr (Or.inr (Or.inr (Or.inr ⟨rfl, ht, hw⟩)))) hd hc hs hQ
theorem own_ret0 (X : Stand p l e R s m args below meth c T locs cells slots) (hx : p.tables.exec = Jvm.exec) (hlk : meth.locks = false) {pc : Nat} {Ls : Array Slot} (hret : meth.sig.returnType = none)
    (hd : decode c.code pc = .ok (.return_, 1)) (hc : cells ≤ rc) (hs : slots ≤ rs) (hQ : Q none T.heap locs) : own_go p e below s Q rc rs (T.setTop (mkF m pc Ls [])) := by
  obtain ⟨fs, hr, hrun, hended, hW, hsame⟩ := X.leave (v := none) (fun _ => rfl) hlk
  exact ⟨_, _, X.returnOut hx hret hd hr, hrun, hended, _, _, rfl, hQ, ⟨_, rfl⟩, hW, hsame.mono hc hs⟩
/-- a body's contract at a heap -/
def own_Met (l : Launch) (Z : State) (y : MethodName) (bytes : ByteArray) (maxL : Nat) (ret : Option FieldType) (ws : List Jvm.Cond) (rm : Room) (as' : Array Value) (h : Heap) (Q : Option Value → Heap → List Loc → Prop) : Prop :=
  MetFree l y (head1 (Jvm.Cond.code y bytes maxL ret :: ws) rm) (fun a U => a = as' ∧ Z.Warmed39 U.vm ∧ U.heap = h) (fun _ _ _ _ _ => True) (fun _ U o U' => ∃ v L, o = .returned v ∧ Q v U'.heap L ∧ FrameEnd U o U' L rm.cells rm.slots)
theorem own_body {y : MethodName} {bytes : ByteArray} {maxL : Nat} {ret : Option FieldType} {ws : List Jvm.Cond} {rm : Room} {as' : Array Value} (hp : plainFor y = true)
    (k : ∀ (p : Program) (e : Env) (s : State) (m : MethodId) (below : List Frame) (meth : Method) (c : Code) (s₁ : State), p.tables.exec = Jvm.exec → c.code = bytes → c.maxLocals = maxL → s.vm.findClass y.cls = some m.cls → meth.name = y.name → meth.sig.returnType = ret → meth.locks = false → Stand p l e rm s m as' below meth c s₁ [] 0 0 → Z.Warmed39 s.vm → s₁.heap = h → own_go p e below s Q rm.cells rm.slots (s₁.setTop (entryFrame m as' maxL))) :
    own_Met l Z y bytes maxL ret ws rm as' h Q := by
  refine MetFree.of_bodySF hp hisR ?_
  intro p e s m args below meth c s₁ Bd hml0 hP hK
  obtain ⟨rfl, hZ, hh⟩ := hP
  exact k p e s m below meth c s₁ Bd.exec Bd.bytes hml0 (findClass_of_methodNamed Bd.named) (name_of_methodNamed Bd.named Bd.method).1 Bd.returns Bd.notSynchronized (Stand.of_body Bd) hZ (by rw [← hh, Bd.state]; rfl)
theorem own_callS (X : Stand p l e R s m args below meth c T locs cells slots) (hx : p.tables.exec = Jvm.exec) (hZ : Z.Warmed39 s.vm) {own : String} {index : Nat} {y : MethodName} {bytes : ByteArray} {maxL : Nat} {ret : Option FieldType} {rm : Room} {argsL rest : List Value} {Q' : Option Value → Heap → List Loc → Prop}
    (hM : own_Met l Z y bytes maxL ret [] rm argsL.toArray h Q') (hown : s.vm.findClass own = some m.cls) (w1 : (Jvm.Cond.methodLink own index y).before a0 Z = true) (w2 : (Jvm.Cond.static y).before a0 Z = true) (w3 : (Jvm.Cond.initialized y.cls).before a0 Z = true) (w4 : (Jvm.Cond.code y bytes maxL ret).before a0 Z = true)
    (hy : y.cls ≠ "java/lang/invoke/MethodHandle" ∧ y.cls ≠ "java/lang/invoke/VarHandle") (eT : T.heap = h) {g : JFrame} (hg : g.method = m) (hsize : g.locals.size = c.maxLocals) (hlen : ∀ sig, parseMethodDescriptor y.desc = some sig → argsL.length = sig.parameters.length) (hstack : g.stack = argsL.reverse ++ rest) {W : Nat} (hW : 2 * g.monitorRoom + (rest.map fun v => v.category).sum ≤ W)
    (hd : decode c.code g.pc = .ok (.invokestatic index, 3)) (hf : rm.frames + 1 ≤ R.frames) (hl : W + (maxL + 11) + rm.locals ≤ R.locals) (hc : cells + rm.cells ≤ R.cells) (hs : slots + rm.slots ≤ R.slots) :
    ∃ v T' L, Stand p l e R s m args below meth c T' (locs ++ L) (cells + rm.cells) (slots + rm.slots) ∧ Q' v T'.heap L ∧ ∀ target, Steps p.tables e below (T'.setTop { g with pc := g.pc + 3, stack := v.toList ++ rest }) target → Steps p.tables e below (T.setTop g) target := by
  obtain ⟨v, _, ⟨T1, L1, k1, n1⟩, -, X1, ⟨Lc, hQ, l1, y1, z1⟩, st⟩ := Jvm.LawKit.callS X hx (y := y) hown (mvT hZ w1) (mvT hZ w2) (mvT hZ w3) (mvT hZ w4) hy (backOf (W := W) hM hZ w4 w3 hf hl) hg hsize hlen hstack hW hd (fun _ _ => ⟨rfl, eT, hc, hs⟩)
  dsimp only [Pt.U, Pt.locs, Pt.cells, Pt.slots] at X1 l1 y1 z1 st hQ
  subst l1 y1 z1
  exact ⟨v, T1, Lc, X1, hQ, st⟩
theorem own_callV (X : Stand p l e R s m args below meth c T locs cells slots) (hx : p.tables.exec = Jvm.exec) (hZ : Z.Warmed39 s.vm) {own C : String} {index : Nat} {y z : MethodName} {bytes : ByteArray} {maxL : Nat} {ret : Option FieldType} {rm : Room} {b : Addr} {argsL rest : List Value} {Q' : Option Value → Heap → List Loc → Prop}
    (hM : own_Met l Z z bytes maxL ret [] rm (.ref b :: argsL).toArray h Q') (hown : s.vm.findClass own = some m.cls) (w1 : (Jvm.Cond.methodLink own index y).before a0 Z = true) (w2 : (Jvm.Cond.declares y).before a0 Z = true) (nf : NotFace s y) (w3 : (Jvm.Cond.selects C y z).before a0 Z = true) (w5 : (Jvm.Cond.instanceMethod z).before a0 Z = true)
    (w6 : (Jvm.Cond.initialized z.cls).before a0 Z = true) (w4 : (Jvm.Cond.code z bytes maxL ret).before a0 Z = true)
    (hy : y.cls ≠ "java/lang/invoke/MethodHandle" ∧ y.cls ≠ "java/lang/invoke/VarHandle") (eT : T.heap = h) (E : Exa Z h b C) {g : JFrame} (hg : g.method = m) (hsize : g.locals.size = c.maxLocals) (hlen : ∀ sig, parseMethodDescriptor y.desc = some sig → argsL.length = sig.parameters.length) (hstack : g.stack = argsL.reverse ++ .ref b :: rest) {W : Nat} (hW : 2 * g.monitorRoom + (rest.map fun v => v.category).sum ≤ W)
    (hd : decode c.code g.pc = .ok (.invokevirtual index, 3)) (hf : rm.frames + 1 ≤ R.frames) (hl : W + (maxL + 11) + rm.locals ≤ R.locals) (hc : cells + rm.cells ≤ R.cells) (hs : slots + rm.slots ≤ R.slots) :
    ∃ v T' L, Stand p l e R s m args below meth c T' (locs ++ L) (cells + rm.cells) (slots + rm.slots) ∧ Q' v T'.heap L ∧ ∀ target, Steps p.tables e below (T'.setTop { g with pc := g.pc + 3, stack := v.toList ++ rest }) target → Steps p.tables e below (T.setTop g) target := by
  obtain ⟨cq, kq, qa, qb, qc⟩ := isOf hZ eT E
  obtain ⟨v, _, ⟨T1, L1, k1, n1⟩, -, X1, ⟨Lc, hQ, l1, y1, z1⟩, st⟩ := X.virtualBack hx (y := y) (z := z) hown (mvT hZ w1) (mvT hZ w2) nf (mvT hZ w3) (mvT hZ w5) hy (backOf (W := W) hM hZ w4 w6 hf hl) qa qc hg hsize (Steps.refl _) hlen hstack hW hd (fun _ _ => ⟨rfl, eT, hc, hs⟩)
  dsimp only [Pt.U, Pt.locs, Pt.cells, Pt.slots] at X1 l1 y1 z1 st hQ
  subst l1 y1 z1
  exact ⟨v, T1, Lc, X1, hQ, fun _ k => st.trans k⟩
theorem own_callU (X : Stand p l e R s m args below meth c T locs cells slots) (hx : p.tables.exec = Jvm.exec) (hZ : Z.Warmed39 s.vm) {own C owner : String} {index : Nat} {y z : MethodName} {bytes : ByteArray} {maxL : Nat} {ret : Option FieldType} {rm : Room} {b : Addr} {argsL rest : List Value} {Q' : Option Value → Heap → List Loc → Prop}
    (hM : own_Met l Z z bytes maxL ret [] rm (.ref b :: argsL).toArray h Q') (hown : s.vm.findClass own = some m.cls) (w1 : (Jvm.Cond.methodLink own index y).before a0 Z = true) (w2 : (Jvm.Cond.sameMethod y.cls owner y.name y.desc).before a0 Z = true) (w7 : (Jvm.Cond.declares ⟨owner, y.name, y.desc⟩).before a0 Z = true) (w3 : (Jvm.Cond.selects C y z).before a0 Z = true) (w5 : (Jvm.Cond.instanceMethod z).before a0 Z = true)
    (w6 : (Jvm.Cond.initialized z.cls).before a0 Z = true) (w4 : (Jvm.Cond.code z bytes maxL ret).before a0 Z = true)
    (hy : owner ≠ "java/lang/invoke/MethodHandle" ∧ owner ≠ "java/lang/invoke/VarHandle") (eT : T.heap = h) (E : Exa Z h b C) {g : JFrame} (hg : g.method = m) (hsize : g.locals.size = c.maxLocals) (hlen : ∀ sig, parseMethodDescriptor y.desc = some sig → argsL.length = sig.parameters.length) (hstack : g.stack = argsL.reverse ++ .ref b :: rest) {W : Nat} (hW : 2 * g.monitorRoom + (rest.map fun v => v.category).sum ≤ W)
    (hd : decode c.code g.pc = .ok (.invokevirtual index, 3)) (hf : rm.frames + 1 ≤ R.frames) (hl : W + (maxL + 11) + rm.locals ≤ R.locals) (hc : cells + rm.cells ≤ R.cells) (hs : slots + rm.slots ≤ R.slots) :
    ∃ v T' L, Stand p l e R s m args below meth c T' (locs ++ L) (cells + rm.cells) (slots + rm.slots) ∧ Q' v T'.heap L ∧ ∀ target, Steps p.tables e below (T'.setTop { g with pc := g.pc + 3, stack := v.toList ++ rest }) target → Steps p.tables e below (T.setTop g) target := by
  obtain ⟨cq, kq, qa, qb, qc⟩ := isOf hZ eT E
  obtain ⟨v, _, ⟨T1, L1, k1, n1⟩, -, X1, ⟨Lc, hQ, l1, y1, z1⟩, st⟩ := X.virtualBackUp hx (x := y) (y := z) hown (mvT hZ w1) (mvT hZ w2) (mvT hZ w7) hy (mvT hZ w3) (mvT hZ w5) (backOf (W := W) hM hZ w4 w6 hf hl) qa qc hg hsize (Steps.refl _) hlen hstack hW hd (fun _ _ => ⟨rfl, eT, hc, hs⟩)
  dsimp only [Pt.U, Pt.locs, Pt.cells, Pt.slots] at X1 l1 y1 z1 st hQ
  subst l1 y1 z1
  exact ⟨v, T1, Lc, X1, hQ, fun _ k => st.trans k⟩
theorem own_callN (X : Stand p l e R s m args below meth c T locs cells slots) (hx : p.tables.exec = Jvm.exec) (hZ : Z.Warmed39 s.vm) {own : String} {index : Nat} {y : MethodName} {bytes : ByteArray} {maxL : Nat} {rm : Room} {b : Addr} {argsL rest : List Value} {Q' : Option Value → Heap → List Loc → Prop}
    (hM : own_Met l Z y bytes maxL none [] rm (.ref b :: argsL).toArray h Q') (hi : y.name = "<init>") (hown : s.vm.findClass own = some m.cls) (w1 : (Jvm.Cond.methodLink own index y).before a0 Z = true) (w2 : (Jvm.Cond.instanceMethod y).before a0 Z = true)
    (w3 : (Jvm.Cond.initialized y.cls).before a0 Z = true) (w4 : (Jvm.Cond.code y bytes maxL none).before a0 Z = true)
    (hy : y.cls ≠ "java/lang/invoke/MethodHandle" ∧ y.cls ≠ "java/lang/invoke/VarHandle") (eT : T.heap = h) {g : JFrame} (hg : g.method = m) (hsize : g.locals.size = c.maxLocals) (hlen : ∀ sig, parseMethodDescriptor y.desc = some sig → argsL.length = sig.parameters.length) (hstack : g.stack = argsL.reverse ++ .ref b :: rest) {W : Nat} (hW : 2 * g.monitorRoom + (rest.map fun v => v.category).sum ≤ W)
    (hd : decode c.code g.pc = .ok (.invokespecial index, 3)) (hf : rm.frames + 1 ≤ R.frames) (hl : W + (maxL + 11) + rm.locals ≤ R.locals) (hc : cells + rm.cells ≤ R.cells) (hs : slots + rm.slots ≤ R.slots) :
    ∃ v T' L, Stand p l e R s m args below meth c T' (locs ++ L) (cells + rm.cells) (slots + rm.slots) ∧ Q' v T'.heap L ∧ ∀ target, Steps p.tables e below (T'.setTop { g with pc := g.pc + 3, stack := v.toList ++ rest }) target → Steps p.tables e below (T.setTop g) target := by
  obtain ⟨v, _, ⟨T1, L1, k1, n1⟩, -, X1, ⟨Lc, hQ, l1, y1, z1⟩, st⟩ := X.specialBack hx (y := y) hi hown (mvT hZ w1) (mvT hZ w2) (mvT hZ w4) hy (backOf (W := W) hM hZ w4 w3 hf hl) hg hsize (Steps.refl _) hlen hstack hW hd (fun _ _ => ⟨rfl, eT, hc, hs⟩)
  dsimp only [Pt.U, Pt.locs, Pt.cells, Pt.slots] at X1 l1 y1 z1 st hQ
  subst l1 y1 z1
  exact ⟨v, T1, Lc, X1, hQ, fun _ k => st.trans k⟩
/-- a reference laid into an array that the walk has made -/
theorem own_put (X : Stand p l e R s m args below meth c T locs cells slots) (hx : p.tables.exec = Jvm.exec) (hZ : Z.Warmed39 s.vm) (eT : T.heap = h) {a : Addr} {k : ClassId} {C : String} {z : Int32} {vs : List Value} {dv : Value} (V : Arv Z h a k (.object C) z vs dv) (O : Ovr Z k C) {y : Addr} (I : Ins Z h y C true) {j : Int32} (hj : ¬ j < 0 ∧ j < z) (i : Nat) (hi : j.toNatClampNeg = i) (hl : i < vs.length)
    {g : JFrame} (hg : g.method = m) {rest : List Value} (hs : g.stack = .ref y :: .int j :: .ref a :: rest) (hd : decode c.code g.pc = .ok (.aastore, 1)) :
    ∃ T' h', Stand p l e R s m args below meth c T' (locs ++ [⟨a, j.toNatClampNeg⟩]) cells slots ∧ T'.heap = h' ∧ Wr h h' a j.toNatClampNeg (.ref y) ∧ Arv Z h' a k (.object C) z (vs.set i (.ref y)) dv ∧ ∀ target, Steps p.tables e below (T'.setTop { g with pc := g.pc + 1, stack := rest }) target → Steps p.tables e below (T.setTop g) target := by
  obtain ⟨cl, A, q1, S, q3, H, G⟩ := V
  obtain ⟨T', h', X', e', W, st⟩ := stR X hx hZ eT A (j := j) (inb_of S hj) rfl (Sto.ofV A q1 O I) hg hs hd
  exact ⟨T', h', X', e', W, Arv.set A q1 S q3 H G rfl W i hi hl, st⟩
theorem own_get (X : Stand p l e R s m args below meth c T locs cells slots) (hx : p.tables.exec = Jvm.exec) (hZ : Z.Warmed39 s.vm) (eT : T.heap = h) {a : Addr} {k : ClassId} {ty : FieldType} {z : Int32} {vs : List Value} {dv : Value} (V : Arv Z h a k ty z vs dv) (hty : ty.isReference = true) {j : Int32} (hj : ¬ j < 0 ∧ j < z) {v : Value} (hv : vs.getD j.toNatClampNeg dv = v)
    {g : JFrame} (hg : g.method = m) {rest : List Value} (hs : g.stack = .int j :: .ref a :: rest) (hd : decode c.code g.pc = .ok (.aaload, 1)) :
    ∀ target, Steps p.tables e below (T.setTop { g with pc := g.pc + 1, stack := v :: rest }) target → Steps p.tables e below (T.setTop g) target := by
  obtain ⟨cl, A, q1, S, q3, H, G⟩ := V
  intro target k
  exact X.aaload hx (by rw [eT]; exact A.1) (State.isArrayOf_alike hZ.alike A.2.1) hty A.2.2 (inb_of S hj) (H.at (inb_of S hj) hv) hg hs hd target k
/-- an array of references of a written length, made -/
theorem own_arr (X : Stand p l e R s m args below meth c T locs cells slots) (hx : p.tables.exec = Jvm.exec) (hZ : Z.Warmed39 s.vm) {own C : String} {index : Nat} (hown : s.vm.findClass own = some m.cls) (w1 : (Jvm.Cond.classLink own index C).before a0 Z = true) (w2 : (Jvm.Cond.arrayOver (.object C)).before a0 Z = true) (eT : T.heap = h)
    {g : JFrame} (hg : g.method = m) (hd : decode c.code g.pc = .ok (.anewarray index, 3)) {n : Int32} {rest : List Value} (hs : g.stack = .int n :: rest) (hn : ¬ n < 0) {cap : Nat} (hcap : n.toNatClampNeg ≤ cap) (hb : cap * 8 ≤ 536870912) (hc : cells + 1 ≤ R.cells) (hl : slots + cap ≤ R.slots) {ad : String} (had : "[" ++ (FieldType.object C).toString = ad) :
    ∃ T' h' k a, Stand p l e R s m args below meth c T' locs (cells + 1) (slots + cap) ∧ T'.heap = h' ∧ a = h.size ∧ Ext h h' ∧ Arv Z h' a k (.object C) n (List.replicate cap .null) .null ∧ Exa Z h' a ad ∧ Ovr Z k C ∧
      ∀ target, Steps p.tables e below (T'.setTop { g with pc := g.pc + 3, stack := .ref a :: rest }) target → Steps p.tables e below (T.setTop g) target := by
  obtain ⟨T', h', k, X', e', E, A, Ex, O, st⟩ := newRE X hx hZ hown w1 w2 eT hg hd hs hn hcap hb hc hl had
  exact ⟨T', h', k, _, X', e', rfl, E, (Arv.new A hn).pad (pad_rep [] .null cap), Ex, O, st⟩
theorem own_len (X : Stand p l e R s m args below meth c T locs cells slots) (hx : p.tables.exec = Jvm.exec) (hZ : Z.Warmed39 s.vm) (eT : T.heap = h) {a : Addr} {k : ClassId} {ty : FieldType} {z : Int32} {vs : List Value} {dv : Value} (V : Arv Z h a k ty z vs dv)
    {g : JFrame} (hg : g.method = m) {rest : List Value} (hs : g.stack = .ref a :: rest) (hd : decode c.code g.pc = .ok (.arraylength, 1)) :
    ∀ target, Steps p.tables e below (T.setTop { g with pc := g.pc + 1, stack := .int z :: rest }) target → Steps p.tables e below (T.setTop g) target := by
  obtain ⟨cl, A, q1, S, q3, H, G⟩ := V
  intro target k
  refine X.arraylength hx (by rw [eT]; exact A.1) (State.isArrayOf_alike hZ.alike A.2.1) hg hs hd _ ?_
  rw [len_of S q3]
  exact k
theorem own_osz {n0 : Nat} (O : Old Z n0 h) : n0 ≤ h.size := by have := O.2.1; rw [O.1] at this; exact this
theorem own_fldI {t : Term} {C n d : String} {k : Int32} {a : Addr} (ev : t.eval args Z none [] Z = some (.ref a)) (hh : (Jvm.Cond.eq (Term.field t C n d) (Term.int k)).value args Z none Z [] = some true) : Fld Z Z.heap a C n d (.int k) := by
  refine Fld.start ?_
  rw [← fld_at (t := t) (args := args) (first := Z) (o := none) (idx := []) ev]
  cases hq : (Term.field t C n d).eval args Z none [] Z with
  | none => simp [Cond.value, hq] at hh
  | some v =>
    simp only [Cond.value, hq, Term.int_eval] at hh
    cases v <;> simp at hh ⊢ <;> exact hh
theorem own_fldJ {t : Term} {C n d : String} {k : Int64} {a : Addr} (ev : t.eval args Z none [] Z = some (.ref a)) (hh : (Jvm.Cond.eq (Term.field t C n d) (Term.long k)).value args Z none Z [] = some true) : Fld Z Z.heap a C n d (.long k) := by
  refine Fld.start ?_
  rw [← fld_at (t := t) (args := args) (first := Z) (o := none) (idx := []) ev]
  cases hq : (Term.field t C n d).eval args Z none [] Z with
  | none => simp [Cond.value, hq] at hh
  | some v =>
    have hk : (Term.long k).eval args Z none [] Z = some (.long k) := rfl
    simp only [Cond.value, hq, hk] at hh
    cases v <;> simp at hh ⊢ <;> exact hh
theorem own_fldN {t : Term} {C n d : String} {a : Addr} (ev : t.eval args Z none [] Z = some (.ref a)) (hh : (Jvm.Cond.eq (Term.field t C n d) Term.null).value args Z none Z [] = some true) : Fld Z Z.heap a C n d .null := by
  refine Fld.start ?_
  rw [← fld_at (t := t) (args := args) (first := Z) (o := none) (idx := []) ev]
  exact null_v hh
theorem own_fldR {t u : Term} {C n d : String} {a b : Addr} (ev : t.eval args Z none [] Z = some (.ref a)) (eu : u.eval args Z none [] Z = some (.ref b)) (hh : (Jvm.Cond.eq (Term.field t C n d) u).value args Z none Z [] = some true) : Fld Z Z.heap a C n d (.ref b) := by
  refine Fld.start ?_
  rw [← fld_at (t := t) (args := args) (first := Z) (o := none) (idx := []) ev]
  cases hq : (Term.field t C n d).eval args Z none [] Z with
  | none => simp [Cond.value, hq] at hh
  | some v => cases v <;> simp [Cond.value, hq, eu] at hh ⊢ <;> exact hh
theorem own_fldX {t : Term} {C n d K : String} {a : Addr} (ev : t.eval args Z none [] Z = some (.ref a)) (hh : (Jvm.Cond.exactly (Term.field t C n d) K).value args Z none Z [] = some true) : ∃ b, Fld Z Z.heap a C n d (.ref b) ∧ Exa Z Z.heap b K := by
  obtain ⟨b, hb⟩ := exa_v hh
  refine ⟨b, Fld.start ?_, Exa.start hb hh⟩
  rw [← fld_at (t := t) (args := args) (first := Z) (o := none) (idx := []) ev]
  exact hb
theorem own_ne {h : Heap} {a b : Addr} {C n d : String} {i j : Int32} (F : Fld Z h a C n d (.int i)) (G : Fld Z h b C n d (.int j)) (q : i ≠ j) : a ≠ b := F.ne G fun r => q (Value.int.inj r)
end OwnKit
section OwnKit3
variable {p : Program} {l : Launch} {e : Env} {R : Room} {s : State} {m : MethodId} {args : Array Value} {below : List Frame} {meth : Method} {c : Code} {T : State} {locs : List Loc} {cells slots : Nat} {Z : State} {a0 : Array Value} {h : Heap}
/-- an array of a primitive kind of a written length, made -/
theorem own_newP (X : Stand p l e R s m args below meth c T locs cells slots) (hx : p.tables.exec = Jvm.exec) (hZ : Z.Warmed39 s.vm) {aty : ArrayType} (w : (Jvm.Cond.arrayClass (newarray.typeOf aty)).before a0 Z = true) (eT : T.heap = h)
    {g : JFrame} (hg : g.method = m) (hd : decode c.code g.pc = .ok (.newarray aty, 2)) {n : Int32} {rest : List Value} (hs : g.stack = .int n :: rest) (hn : ¬ n < 0) {cap : Nat} (hcap : n.toNatClampNeg ≤ cap) (hb : cap * 8 ≤ 536870912) (hc : cells + 1 ≤ R.cells) (hl : slots + cap ≤ R.slots) :
    ∃ T' h' k a, Stand p l e R s m args below meth c T' locs (cells + 1) (slots + cap) ∧ T'.heap = h' ∧ a = h.size ∧ Ext h h' ∧ Arv Z h' a k (newarray.typeOf aty) n (List.replicate cap (defaultValue (newarray.typeOf aty))) (defaultValue (newarray.typeOf aty)) ∧
      ∀ target, Steps p.tables e below (T'.setTop { g with pc := g.pc + 2, stack := .ref a :: rest }) target → Steps p.tables e below (T.setTop g) target := by
  obtain ⟨T', h', k, X', e', E, A, st⟩ := newP X hx hZ w eT hg hd hs hn hcap hb hc hl
  exact ⟨T', h', k, _, X', e', rfl, E, (Arv.new A hn).pad (pad_rep [] _ cap), st⟩
theorem own_putC (X : Stand p l e R s m args below meth c T locs cells slots) (hx : p.tables.exec = Jvm.exec) (hZ : Z.Warmed39 s.vm) (eT : T.heap = h) {a : Addr} {k : ClassId} {z : Int32} {vs : List Value} {dv : Value} (V : Arv Z h a k .char z vs dv) {j x y : Int32} (hxy : nar .char x = y) (hj : ¬ j < 0 ∧ j < z) (i : Nat) (hi : j.toNatClampNeg = i) (hl : i < vs.length)
    {g : JFrame} (hg : g.method = m) {rest : List Value} (hs : g.stack = .int x :: .int j :: .ref a :: rest) (hd : decode c.code g.pc = .ok (.castore, 1)) :
    ∃ T' h', Stand p l e R s m args below meth c T' (locs ++ [⟨a, j.toNatClampNeg⟩]) cells slots ∧ T'.heap = h' ∧ Wr h h' a j.toNatClampNeg (.int y) ∧ Arv Z h' a k .char z (vs.set i (.int y)) dv ∧ ∀ target, Steps p.tables e below (T'.setTop { g with pc := g.pc + 1, stack := rest }) target → Steps p.tables e below (T.setTop g) target := by
  subst hxy
  obtain ⟨cl, A, q1, S, q3, H, G⟩ := V
  obtain ⟨T', h', X', e', W, st⟩ := stC X hx hZ eT A (j := j) (inb_of S hj) hg hs hd
  exact ⟨T', h', X', e', W, Arv.set A q1 S q3 H G (fits_nar_char x) W i hi hl, st⟩
theorem own_putB (X : Stand p l e R s m args below meth c T locs cells slots) (hx : p.tables.exec = Jvm.exec) (hZ : Z.Warmed39 s.vm) (eT : T.heap = h) {a : Addr} {k : ClassId} {z : Int32} {vs : List Value} {dv : Value} (V : Arv Z h a k .byte z vs dv) {j x y : Int32} (hxy : nar .byte x = y) (hj : ¬ j < 0 ∧ j < z) (i : Nat) (hi : j.toNatClampNeg = i) (hl : i < vs.length)
    {g : JFrame} (hg : g.method = m) {rest : List Value} (hs : g.stack = .int x :: .int j :: .ref a :: rest) (hd : decode c.code g.pc = .ok (.bastore, 1)) :
    ∃ T' h', Stand p l e R s m args below meth c T' (locs ++ [⟨a, j.toNatClampNeg⟩]) cells slots ∧ T'.heap = h' ∧ Wr h h' a j.toNatClampNeg (.int y) ∧ Arv Z h' a k .byte z (vs.set i (.int y)) dv ∧ ∀ target, Steps p.tables e below (T'.setTop { g with pc := g.pc + 1, stack := rest }) target → Steps p.tables e below (T.setTop g) target := by
  subst hxy
  obtain ⟨cl, A, q1, S, q3, H, G⟩ := V
  obtain ⟨T', h', X', e', W, st⟩ := stB X hx hZ eT A (j := j) (inb_of S hj) hg hs hd
  exact ⟨T', h', X', e', W, Arv.set A q1 S q3 H G (fits_nar_byte x) W i hi hl, st⟩
theorem own_nz {t : Term} {k z : Int32} (ev : t.eval args Z none [] Z = some (.int z)) (hh : (Jvm.Cond.not (Jvm.Cond.eq t (Term.int k))).value args Z none Z [] = some true) : ¬ z = k := by
  have q := not_v hh
  simp only [Cond.value, ev, Term.int_eval] at q
  simpa using q
theorem own_255 (x : Int32) : ¬ (255 : Int32) < x &&& 255 := by
  have h1 := c_and x 255 (by decide)
  rw [Int32.lt_iff_toInt_lt]; omega
theorem own_p255 (x : Int32) : ¬ x &&& 255 < 0 ∧ ¬ (255 : Int32) < x &&& 255 := by
  have h1 := c_and x 255 (by decide)
  refine ⟨?_, own_255 x⟩
  rw [Int32.lt_iff_toInt_lt]; have : (0 : Int32).toInt = 0 := rfl
  omega
end OwnKit3
section OwnKit5
variable {p : Program} {l : Launch} {e : Env} {R : Room} {s : State} {m : MethodId} {args : Array Value} {below : List Frame} {meth : Method} {c : Code} {T : State} {locs : List Loc} {cells slots : Nat} {Z : State} {a0 : Array Value} {h : Heap}
theorem own_getC (X : Stand p l e R s m args below meth c T locs cells slots) (hx : p.tables.exec = Jvm.exec) (hZ : Z.Warmed39 s.vm) (eT : T.heap = h) {a : Addr} {k : ClassId} {z : Int32} {vs : List Value} {dv : Value} (V : Arv Z h a k .char z vs dv) {j : Int32} (hj : ¬ j < 0 ∧ j < z) {v : Value} (hv : vs.getD j.toNatClampNeg dv = v)
    {g : JFrame} (hg : g.method = m) {rest : List Value} (hs : g.stack = .int j :: .ref a :: rest) (hd : decode c.code g.pc = .ok (.caload, 1)) :
    ∀ target, Steps p.tables e below (T.setTop { g with pc := g.pc + 1, stack := v :: rest }) target → Steps p.tables e below (T.setTop g) target := by
  obtain ⟨cl, A, q1, S, q3, H, G⟩ := V
  intro target k
  exact X.caload hx (by rw [eT]; exact A.1) (State.isArrayOf_alike hZ.alike A.2.1) A.2.2 (inb_of S hj) (H.at (inb_of S hj) hv) hg hs hd target k
theorem own_getB (X : Stand p l e R s m args below meth c T locs cells slots) (hx : p.tables.exec = Jvm.exec) (hZ : Z.Warmed39 s.vm) (eT : T.heap = h) {a : Addr} {k : ClassId} {z : Int32} {vs : List Value} {dv : Value} (V : Arv Z h a k .byte z vs dv) {j : Int32} (hj : ¬ j < 0 ∧ j < z) {v : Value} (hv : vs.getD j.toNatClampNeg dv = v)
    {g : JFrame} (hg : g.method = m) {rest : List Value} (hs : g.stack = .int j :: .ref a :: rest) (hd : decode c.code g.pc = .ok (.baload, 1)) :
    ∀ target, Steps p.tables e below (T.setTop { g with pc := g.pc + 1, stack := v :: rest }) target → Steps p.tables e below (T.setTop g) target := by
  obtain ⟨cl, A, q1, S, q3, H, G⟩ := V
  intro target k
  exact X.baloadBytes hx (by rw [eT]; exact A.1) (State.isArrayOf_alike hZ.alike A.2.1) A.2.2 (inb_of S hj) (H.at (inb_of S hj) hv) hg hs hd target k
theorem own_eqI {t : Term} {k : Int32} (hh : (Jvm.Cond.eq t (Term.int k)).value args Z none Z [] = some true) : t.eval args Z none [] Z = some (.int k) := by
  cases hq : t.eval args Z none [] Z with
  | none => simp [Cond.value, hq] at hh
  | some v =>
    simp only [Cond.value, hq, Term.int_eval] at hh
    cases v <;> simp at hh ⊢ <;> exact hh
theorem own_rc {v : Value} (q : v.isRef = true) : v = .null ∨ ∃ r, v = .ref r := by
  cases v <;> simp [Value.isRef] at q ⊢
def own_ch (c : Int32) : Prop := ¬ c < 0 ∧ ¬ (65535 : Int32) < c
def own_ok (c : Int32) : Prop := ¬ c < (32 : Int32) ∧ ¬ (126 : Int32) < c
theorem own_chI (x : Int32) : own_ch (x.toUInt32.toUInt16.toUInt32.toInt32) := by
  obtain ⟨-, h1, h2⟩ := c_i2c x
  refine ⟨?_, ?_⟩
  · rw [Int32.lt_iff_toInt_lt]; have : (0 : Int32).toInt = 0 := rfl
    omega
  · rw [Int32.lt_iff_toInt_lt]; have : (65535 : Int32).toInt = 65535 := by decide
    omega
theorem own_narC {c : Int32} (q : own_ch c) : nar .char c = c := Value.int.inj (StrChars.narrow_ch q.1 q.2)
theorem own_nb8 (x : Int32) : nar .byte (x.toInt8.toInt32) = x.toInt8.toInt32 := by
  show (x.toInt8.toInt32).toInt8.toInt32 = _
  rw [Int8.toInt8_toInt32]
end OwnKit5
section OwnKitW
variable {p : Program} {l : Launch} {e : Env} {R : Room} {s : State} {m : MethodId} {args : Array Value} {below : List Frame} {meth : Method} {c : Code} {T : State} {locs : List Loc} {cells slots : Nat} {Z : State} {a0 : Array Value} {h h' : Heap} {Q : Option Value → Heap → List Loc → Prop} {rc rs : Nat} {S S' : State} {EL : List (String × Nat)} {vm vm0 : Vm} {k0 : Nat}
/-- from S the body ends well; String constants may have been loaded meanwhile -/
def own_goW (Z : State) (EL : List (String × Nat)) (p : Program) (e : Env) (below : List Frame) (s : State) (h : Heap) (Q : Option Value → Heap → List Loc → Prop) (rc rs : Nat) (S : State) : Prop :=
  ∃ s₂ o, Steps p.tables e below S s₂ ∧ s₂.status = .running ∧ Ended s₂ below o ∧ ∃ v L, o = .returned v ∧ Q v s₂.heap L ∧ CHr Z EL s.vm h s₂.vm s₂.heap ∧ ReturnedEndW s o s₂ L rc rs
theorem oT (k : ∀ t, Steps p.tables e below S' t → Steps p.tables e below S t) (g : own_goW Z EL p e below s h Q rc rs S') : own_goW Z EL p e below s h Q rc rs S := by
  obtain ⟨s₂, o, h1, h2⟩ := g
  exact ⟨s₂, o, k _ h1, h2⟩
theorem own_endW {L : List Loc} {k n k' n' : Nat} {o : Outcome} {t : State} (q : ReturnedEndW s o t L k n) (h1 : k ≤ k') (h2 : n ≤ n') : ReturnedEndW s o t L k' n' := ⟨q.1, q.2.1, q.2.2.1, q.2.2.2.mono h1 h2⟩
theorem own_retW (X : Stand p l e R (s.setVm vm0) m args below meth c T locs cells slots) (hx : p.tables.exec = Jvm.exec) (hlk : meth.locks = false) (hS : s.Since vm0 k0) (hk : k0 ≤ h'.size) (hZ : Z.Warmed39 vm0) (hEL : EW Z a0 EL) (C : CHr Z EL s.vm h vm0 h') (eT : T.heap = h') {pc : Nat} {Ls : Array Slot} {w : Value} {t : FieldType} {i : Instr} {rest : List Value} (hret : meth.sig.returnType = some t) (hn : narrow t w = w)
    (hi : (i = .ireturn ∧ (t = .int ∨ t = .boolean ∨ t = .byte ∨ t = .char ∨ t = .short) ∧ ∃ z, w = .int z) ∨ (i = .lreturn ∧ t = .long ∧ ∃ z, w = .long z) ∨ (i = .dreturn ∧ t = .double ∧ ∃ z, w = .double z) ∨ (i = .freturn ∧ t = .float ∧ ∃ z, w = .float z) ∨ (i = .areturn ∧ t.isReference = true ∧ w.isRef = true))
    (hd : decode c.code pc = .ok (i, 1)) (hc : cells ≤ rc) (hs : slots ≤ rs) (hQ : Q (some w) T.heap locs) : own_goW Z EL p e below s h Q rc rs (T.setTop (mkF m pc Ls (w :: rest))) := by
  obtain ⟨fs, hr, hrun, hended, hW⟩ := X.leaveW hS (by rw [eT]; exact hk) (v := some w) (fun h => by rw [hret] at h; cases h) hlk
  have C2 := C.trans (CHv.at X hZ hEL C.1)
  refine ⟨_, _, retOut X hx hret hn hi hd hr, hrun, hended, _, _, rfl, hQ, ?_, own_endW hW hc hs⟩
  show CHr Z EL s.vm h T.vm T.heap
  rw [eT]; exact C2
theorem own_retIW (X : Stand p l e R (s.setVm vm0) m args below meth c T locs cells slots) (hx : p.tables.exec = Jvm.exec) (hlk : meth.locks = false) (hS : s.Since vm0 k0) (hk : k0 ≤ h'.size) (hZ : Z.Warmed39 vm0) (hEL : EW Z a0 EL) (C : CHr Z EL s.vm h vm0 h') (eT : T.heap = h') {pc : Nat} {Ls : Array Slot} {z : Int32} {rest : List Value} (hret : meth.sig.returnType = some .int)
    (hd : decode c.code pc = .ok (.ireturn, 1)) (hc : cells ≤ rc) (hs : slots ≤ rs) (hQ : Q (some (.int z)) T.heap locs) : own_goW Z EL p e below s h Q rc rs (T.setTop (mkF m pc Ls (.int z :: rest))) :=
  own_retW X hx hlk hS hk hZ hEL C eT hret rfl (Or.inl ⟨rfl, Or.inl rfl, z, rfl⟩) hd hc hs hQ
theorem own_retNW (X : Stand p l e R (s.setVm vm0) m args below meth c T locs cells slots) (hx : p.tables.exec = Jvm.exec) (hlk : meth.locks = false) (hS : s.Since vm0 k0) (hk : k0 ≤ h'.size) (hZ : Z.Warmed39 vm0) (hEL : EW Z a0 EL) (C : CHr Z EL s.vm h vm0 h') (eT : T.heap = h') {pc : Nat} {Ls : Array Slot} {z : Int32} {t : FieldType} {rest : List Value} (hret : meth.sig.returnType = some t) (ht : t = .boolean ∨ t = .byte ∨ t = .char ∨ t = .short) (hn : narrow t (.int z) = .int z)
    (hd : decode c.code pc = .ok (.ireturn, 1)) (hc : cells ≤ rc) (hs : slots ≤ rs) (hQ : Q (some (.int z)) T.heap locs) : own_goW Z EL p e below s h Q rc rs (T.setTop (mkF m pc Ls (.int z :: rest))) :=
  own_retW X hx hlk hS hk hZ hEL C eT hret hn (Or.inl ⟨rfl, Or.inr ht, z, rfl⟩) hd hc hs hQ
theorem own_retAW (X : Stand p l e R (s.setVm vm0) m args below meth c T locs cells slots) (hx : p.tables.exec = Jvm.exec) (hlk : meth.locks = false) (hS : s.Since vm0 k0) (hk : k0 ≤ h'.size) (hZ : Z.Warmed39 vm0) (hEL : EW Z a0 EL) (C : CHr Z EL s.vm h vm0 h') (eT : T.heap = h') {pc : Nat} {Ls : Array Slot} {w : Value} {t : FieldType} {rest : List Value} (hret : meth.sig.returnType = some t) (ht : t.isReference = true) (hw : w.isRef = true)
    (hd : decode c.code pc = .ok (.areturn, 1)) (hc : cells ≤ rc) (hs : slots ≤ rs) (hQ : Q (some w) T.heap locs) : own_goW Z EL p e below s h Q rc rs (T.setTop (mkF m pc Ls (w :: rest))) :=
  own_retW X hx hlk hS hk hZ hEL C eT hret (by cases w <;> cases t <;> first | rfl | (simp [Value.isRef] at hw; done) | (simp [FieldType.isReference] at ht; done)) (Or.inr (Or.inr (Or.inr (Or.inr ⟨rfl, ht, hw⟩)))) hd hc hs hQ
theorem own_ret0W (X : Stand p l e R (s.setVm vm0) m args below meth c T locs cells slots) (hx : p.tables.exec = Jvm.exec) (hlk : meth.locks = false) (hS : s.Since vm0 k0) (hk : k0 ≤ h'.size) (hZ : Z.Warmed39 vm0) (hEL : EW Z a0 EL) (C : CHr Z EL s.vm h vm0 h') (eT : T.heap = h') {pc : Nat} {Ls : Array Slot} (hret : meth.sig.returnType = none)
    (hd : decode c.code pc = .ok (.return_, 1)) (hc : cells ≤ rc) (hs : slots ≤ rs) (hQ : Q none T.heap locs) : own_goW Z EL p e below s h Q rc rs (T.setTop (mkF m pc Ls [])) := by
  obtain ⟨fs, hr, hrun, hended, hW⟩ := X.leaveW hS (by rw [eT]; exact hk) (v := none) (fun _ => rfl) hlk
  have C2 := C.trans (CHv.at X hZ hEL C.1)
  refine ⟨_, _, X.returnOut hx hret hd hr, hrun, hended, _, _, rfl, hQ, ?_, own_endW hW hc hs⟩
  show CHr Z EL s.vm h T.vm T.heap
  rw [eT]; exact C2
/-- a body's contract at a heap, String constants loaded meanwhile allowed -/
def own_MetW (l : Launch) (Z : State) (EL : List (String × Nat)) (y : MethodName) (bytes : ByteArray) (maxL : Nat) (ret : Option FieldType) (ws : List Jvm.Cond) (rm : Room) (as' : Array Value) (h : Heap) (Q : Option Value → Heap → List Loc → Prop) : Prop :=
  MetFree l y (head1 (Jvm.Cond.code y bytes maxL ret :: ws) rm) (fun a U => a = as' ∧ Z.Warmed39 U.vm ∧ U.heap = h ∧ CHv Z EL U.vm h) (fun _ _ _ _ _ => True) (fun _ U o U' => ∃ v L, o = .returned v ∧ Q v U'.heap L ∧ CHr Z EL U.vm U.heap U'.vm U'.heap ∧ ReturnedEndW U o U' L rm.cells rm.slots)
theorem own_bodyW {y : MethodName} {bytes : ByteArray} {maxL : Nat} {ret : Option FieldType} {ws : List Jvm.Cond} {rm : Room} {as' : Array Value} (hp : plainFor y = true)
    (k : ∀ (p : Program) (e : Env) (s : State) (m : MethodId) (below : List Frame) (meth : Method) (c : Code) (s₁ : State), p.tables.exec = Jvm.exec → c.code = bytes → c.maxLocals = maxL → s.vm.findClass y.cls = some m.cls → meth.name = y.name → meth.sig.returnType = ret → meth.locks = false → Stand p l e rm (s.setVm s.vm) m as' below meth c s₁ [] 0 0 → Z.Warmed39 s.vm → s₁.heap = h → CHr Z EL s.vm h s.vm h → s.Since s.vm h.size → own_goW Z EL p e below s h Q rm.cells rm.slots (s₁.setTop (entryFrame m as' maxL))) :
    own_MetW l Z EL y bytes maxL ret ws rm as' h Q := by
  refine MetFree.of_bodySF hp hisR ?_
  intro p e s m args below meth c s₁ Bd hml0 hP hK
  obtain ⟨rfl, hZ, hh, hC⟩ := hP
  subst hh
  exact k p e s m below meth c s₁ Bd.exec Bd.bytes hml0 (findClass_of_methodNamed Bd.named) (name_of_methodNamed Bd.named Bd.method).1 Bd.returns Bd.notSynchronized (Stand.of_body Bd) hZ (by rw [Bd.state]; rfl) (CHr.refl hC) ((State.WarmedH.refl s).since _)
theorem own_callSW (X : Stand p l e R (s.setVm vm0) m args below meth c T locs cells slots) (hx : p.tables.exec = Jvm.exec) (hZ : Z.Warmed39 vm0) (hS : s.Since vm0 k0) (hk : k0 ≤ h.size) (hEL : EW Z a0 EL) (H : CHv Z EL vm0 h) {own : String} {index : Nat} {y : MethodName} {bytes : ByteArray} {maxL : Nat} {ret : Option FieldType} {rm : Room} {argsL rest : List Value} {Q' : Option Value → Heap → List Loc → Prop}
    (hM : own_MetW l Z EL y bytes maxL ret [] rm argsL.toArray h Q') (hown : vm0.findClass own = some m.cls) (w1 : (Jvm.Cond.methodLink own index y).before a0 Z = true) (w2 : (Jvm.Cond.static y).before a0 Z = true) (w3 : (Jvm.Cond.initialized y.cls).before a0 Z = true) (w4 : (Jvm.Cond.code y bytes maxL ret).before a0 Z = true)
    (hy : y.cls ≠ "java/lang/invoke/MethodHandle" ∧ y.cls ≠ "java/lang/invoke/VarHandle") (eT : T.heap = h) {g : JFrame} (hg : g.method = m) (hsize : g.locals.size = c.maxLocals) (hlen : ∀ sig, parseMethodDescriptor y.desc = some sig → argsL.length = sig.parameters.length) (hstack : g.stack = argsL.reverse ++ rest) {W : Nat} (hW : 2 * g.monitorRoom + (rest.map fun v => v.category).sum ≤ W)
    (hd : decode c.code g.pc = .ok (.invokestatic index, 3)) (hf : rm.frames + 1 ≤ R.frames) (hl : W + (maxL + 11) + rm.locals ≤ R.locals) (hc : cells + rm.cells ≤ R.cells) (hs : slots + rm.slots ≤ R.slots) :
    ∃ v T' L, Stand p l e R (s.setVm T'.vm) m args below meth c T' (locs ++ L) (cells + rm.cells) (slots + rm.slots) ∧ s.Since T'.vm T'.heap.size ∧ Z.Warmed39 T'.vm ∧ T'.vm.findClass own = some m.cls ∧ CHr Z EL vm0 h T'.vm T'.heap ∧ Q' v T'.heap L ∧ ∀ target, Steps p.tables e below (T'.setTop { g with pc := g.pc + 3, stack := v.toList ++ rest }) target → Steps p.tables e below (T.setTop g) target := by
  obtain ⟨v, _, ⟨T1, L1, k1, n1⟩, -, X1, hS1, hg1, ⟨Lc, hQ, l1, y1, z1, hC⟩, st⟩ := callSS X hx (y := y) hown (mvT (s := s.setVm vm0) hZ w1) (mvT (s := s.setVm vm0) hZ w2) (mvT (s := s.setVm vm0) hZ w3) (mvT (s := s.setVm vm0) hZ w4) hy (backOfSH (s := s) (W := W) hM hZ w4 w3 hf hl hEL H) hg hsize hlen hstack hW hd (fun _ _ => ⟨rfl, eT, hc, hs⟩)
  dsimp only [Pt.U, Pt.locs, Pt.cells, Pt.slots] at X1 hS1 hg1 l1 y1 z1 st hQ hC
  subst l1 y1 z1
  obtain ⟨X2, hS2, hZ2, ho2⟩ := rebS hS (by rw [eT]; exact hk) X1 hS1 hg1 hZ hown
  exact ⟨v, T1, Lc, X2, hS2, hZ2, ho2, hC, hQ, fun _ k => st.trans k⟩
theorem own_callNW (X : Stand p l e R (s.setVm vm0) m args below meth c T locs cells slots) (hx : p.tables.exec = Jvm.exec) (hZ : Z.Warmed39 vm0) (hS : s.Since vm0 k0) (hk : k0 ≤ h.size) (hEL : EW Z a0 EL) (H : CHv Z EL vm0 h) {own : String} {index : Nat} {y : MethodName} {bytes : ByteArray} {maxL : Nat} {rm : Room} {b : Addr} {argsL rest : List Value} {Q' : Option Value → Heap → List Loc → Prop}
    (hM : own_MetW l Z EL y bytes maxL none [] rm (.ref b :: argsL).toArray h Q') (hi : y.name = "<init>") (hown : vm0.findClass own = some m.cls) (w1 : (Jvm.Cond.methodLink own index y).before a0 Z = true) (w2 : (Jvm.Cond.instanceMethod y).before a0 Z = true)
    (w3 : (Jvm.Cond.initialized y.cls).before a0 Z = true) (w4 : (Jvm.Cond.code y bytes maxL none).before a0 Z = true)
    (hy : y.cls ≠ "java/lang/invoke/MethodHandle" ∧ y.cls ≠ "java/lang/invoke/VarHandle") (eT : T.heap = h) {g : JFrame} (hg : g.method = m) (hsize : g.locals.size = c.maxLocals) (hlen : ∀ sig, parseMethodDescriptor y.desc = some sig → argsL.length = sig.parameters.length) (hstack : g.stack = argsL.reverse ++ .ref b :: rest) {W : Nat} (hW : 2 * g.monitorRoom + (rest.map fun v => v.category).sum ≤ W)
    (hd : decode c.code g.pc = .ok (.invokespecial index, 3)) (hf : rm.frames + 1 ≤ R.frames) (hl : W + (maxL + 11) + rm.locals ≤ R.locals) (hc : cells + rm.cells ≤ R.cells) (hs : slots + rm.slots ≤ R.slots) :
    ∃ v T' L, Stand p l e R (s.setVm T'.vm) m args below meth c T' (locs ++ L) (cells + rm.cells) (slots + rm.slots) ∧ s.Since T'.vm T'.heap.size ∧ Z.Warmed39 T'.vm ∧ T'.vm.findClass own = some m.cls ∧ CHr Z EL vm0 h T'.vm T'.heap ∧ Q' v T'.heap L ∧ ∀ target, Steps p.tables e below (T'.setTop { g with pc := g.pc + 3, stack := v.toList ++ rest }) target → Steps p.tables e below (T.setTop g) target := by
  obtain ⟨v, _, ⟨T1, L1, k1, n1⟩, -, X1, hS1, hg1, ⟨Lc, hQ, l1, y1, z1, hC⟩, st⟩ := X.specialBackS hx (y := y) hi hown (mvT (s := s.setVm vm0) hZ w1) (mvT (s := s.setVm vm0) hZ w2) (mvT (s := s.setVm vm0) hZ w4) hy (backOfSH (s := s) (W := W) hM hZ w4 w3 hf hl hEL H) hg hsize (Steps.refl _) hlen hstack hW hd (fun _ _ => ⟨rfl, eT, hc, hs⟩)
  dsimp only [Pt.U, Pt.locs, Pt.cells, Pt.slots] at X1 hS1 hg1 l1 y1 z1 st hQ hC
  subst l1 y1 z1
  obtain ⟨X2, hS2, hZ2, ho2⟩ := rebS hS (by rw [eT]; exact hk) X1 hS1 hg1 hZ hown
  exact ⟨v, T1, Lc, X2, hS2, hZ2, ho2, hC, hQ, fun _ k => st.trans k⟩
theorem own_safeS {x : Addr} (hal : Z.vm.Alike vm) (E : Exa Z h x "java/lang/String") (F : Fld Z h x "java/lang/String" "value" "[B" .null) : Safe Z EL vm h x := fun B => by
  obtain ⟨p, hp, u, a, hb, q, hqa, G, hy⟩ := B
  obtain ⟨cS, ⟨⟨s1, s2, s3, ⟨cv, kv, iv, s4, s4'⟩, ⟨cc, kc, ic, s5, s5'⟩, s6, s7, s8, s9, s10, -⟩, hfS, hcS⟩, -, hB, -⟩ := G
  rcases hy with rfl | rfl
  · obtain ⟨cell, cf, k, i, f, h1, h2, -, -, -, -, h7⟩ := F
    have s1 : h[q.sa]? = some q.sC := s1
    cases h1.symm.trans s1
    obtain ⟨kz, z4⟩ := ff_back (U := Wst Z vm h) hal s4
    cases h2.symm.trans z4
    cases h7.symm.trans s8
  · obtain ⟨cell, k, h1, h2, -⟩ := E
    have s10 : h[q.sd]? = some q.SA := s10
    cases h1.symm.trans s10
    have hB : vm.findClass "[B" = some q.SA.cls := hB
    rw [hal.findClass] at hB
    obtain ⟨k1, a1, a2⟩ := Vm.findClass_spec h2
    obtain ⟨k2, b1, b2⟩ := Vm.findClass_spec hB
    cases a1.symm.trans b1
    exact absurd (a2.symm.trans b2) (by decide)
theorem own_safeV {x : Addr} {k : ClassId} {ty : FieldType} {z : Int32} {vs : List Value} {dv : Value} (hal : Z.vm.Alike vm) (V : Arv Z h x k ty z vs dv) (ht : ty ≠ .byte) : Safe Z EL vm h x := by
  obtain ⟨cl, A, -⟩ := V
  exact Safe.arr hal A ht
end OwnKitW
theorem ow {a0 : Array Value} {Z : State} (hw : ∀ d ∈ tables_1, d.before a0 Z = true) (i : Nat) {d : Jvm.Cond} (h : tables_1[i]? = some d) : d.before a0 Z = true := hw d (List.mem_of_getElem? h)
theorem own_EW {Z : State} {a0 : Array Value} (hw : ∀ d ∈ tables_1, d.before a0 Z = true) : EW Z a0 consts_1 := EW.cons (ow hw 18 rfl) (by decide +kernel) (EW.nil)
theorem own_sA {Z : State} {a0 : Array Value} (hw : ∀ d ∈ tables_1, d.before a0 Z = true) : ∀ d ∈ Bundle.stringAtoms, d.before a0 Z = true := fun d hd => hw d ((by decide +kernel : ∀ d ∈ Bundle.stringAtoms, d ∈ tables_1) d hd)
def own_S (Z : State) (zC : Int32) (vS : Value) : Prop := (Sta Z Z.heap "java/lang/String" "COMPACT_STRINGS" "Z" (.int zC)) ∧
  (¬ zC = (0 : Int32)) ∧
  (Sta Z Z.heap "jdk/internal/util/Preconditions" "SIOOBE_FORMATTER" "Ljava/util/function/BiFunction;" vS) ∧
  (vS.isRef = true) ∧
  (Sta Z Z.heap "java/lang/StringUTF16" "$assertionsDisabled" "Z" (.int (1 : Int32))) ∧
  (Sta Z Z.heap "java/lang/StringUTF16" "HI_BYTE_SHIFT" "I" (.int (0 : Int32))) ∧
  (Sta Z Z.heap "java/lang/StringUTF16" "LO_BYTE_SHIFT" "I" (.int (8 : Int32)))
theorem own_m3 (k : Int32) : (k &&& (3 : Int32)) = (0 : Int32) ∨ (k &&& (3 : Int32)) = (1 : Int32) ∨ (k &&& (3 : Int32)) = (2 : Int32) ∨ (k &&& (3 : Int32)) = (3 : Int32) := by
  have h1 := c_and k 3 (by decide)
  have h0 : (3 : Int32).toInt = 3 := by decide
  rw [h0] at h1
  have h3 : (k &&& (3 : Int32)).toInt = 0 ∨ (k &&& (3 : Int32)).toInt = 1 ∨ (k &&& (3 : Int32)).toInt = 2 ∨ (k &&& (3 : Int32)).toInt = 3 := by omega
  rcases h3 with q | q | q | q
  · exact Or.inl (Int32.toInt_inj.mp (q.trans rfl))
  · exact Or.inr (Or.inl (Int32.toInt_inj.mp (q.trans rfl)))
  · exact Or.inr (Or.inr (Or.inl (Int32.toInt_inj.mp (q.trans rfl))))
  · exact Or.inr (Or.inr (Or.inr (Int32.toInt_inj.mp (q.trans rfl))))
theorem d1_0 : decode method_3_code 0 = .ok (.iload_n 1, 1) := by decide +kernel
theorem d1_1 : decode method_3_code 1 = .ok (.ifCond .eq 9, 3) := by decide +kernel
theorem d1_4 : decode method_3_code 4 = .ok (.iload_n 0, 1) := by decide +kernel
theorem d1_5 : decode method_3_code 5 = .ok (.bipush 127, 2) := by decide +kernel
theorem d1_7 : decode method_3_code 7 = .ok (.iand, 1) := by decide +kernel
theorem d1_8 : decode method_3_code 8 = .ok (.i2c, 1) := by decide +kernel
theorem d1_9 : decode method_3_code 9 = .ok (.ireturn, 1) := by decide +kernel
theorem d1_10 : decode method_3_code 10 = .ok (.iload_n 0, 1) := by decide +kernel
theorem d1_11 : decode method_3_code 11 = .ok (.i2c, 1) := by decide +kernel
theorem d1_12 : decode method_3_code 12 = .ok (.ireturn, 1) := by decide +kernel
theorem own_pn_1 : plainFor (⟨"com/example/lynceus/lynceus/probe/HeaderValueKeepablePinLaw", "pick", "(IZ)C"⟩ : MethodName) = true := plainFor_of_name (show plainName "com/example/lynceus/lynceus/probe/HeaderValueKeepablePinLaw" = true by first | (simp [plainName, overriddenIn]; done) | decide +kernel)
theorem own_ef_rm_pick (m : MethodId) (p1 : Int32) (p2 : Int32) : entryFrame m #[(.int p1), (.int p2)] 2 = mkF m 0 #[.val (.int p1), .val (.int p2)] [] := by first | (simp [entryFrame, mkF, argsToLocals, Value.category]; done) | rfl
set_option maxRecDepth 65536 in
set_option maxHeartbeats 40000000 in
theorem rm_pick (l : Launch) (Z : State) (a0 : Array Value) (hw : ∀ d ∈ tables_1, d.before a0 Z = true) (p1 p2 : Int32) (h0 : Heap) (n0 : Nat) (O0 : Old Z n0 h0)  :
    own_Met l Z (⟨"com/example/lynceus/lynceus/probe/HeaderValueKeepablePinLaw", "pick", "(IZ)C"⟩ : MethodName) method_3_code 2 (some .char) [] ({ frames := 0, cells := 0, slots := 0, locals := 0 } : Room) #[(.int p1), (.int p2)] h0 (fun v h L => ∃ c, v = some (.int c) ∧ Fr n0 L ∧ h = h0 ∧ own_ch c) := by
  refine own_body own_pn_1 ?_
  intro p e s m below meth c s₁ hx hby hml hown hnm hret hlk X0 hZ e0
  replace hown : s.vm.findClass "com/example/lynceus/lynceus/probe/HeaderValueKeepablePinLaw" = some m.cls := hown
  have N0 := Fr.nil n0
  have K0 := Keep.refl h0 []
  refine oS (fun _ k => castTop (own_ef_rm_pick m p1 p2) k) ?_
  show own_go _ _ _ _ _ _ _ (s₁.setTop (mkF m 0 #[.val (.int p1), .val (.int p2)] []))
  refine oS (fun _ k => XS.iloadN X0.here hx rfl (hb hby d1_0) rfl k) ?_
  show own_go _ _ _ _ _ _ _ (s₁.setTop (mkF m 1 #[.val (.int p1), .val (.int p2)] [(.int p2)]))
  by_cases hc1 : p2 = (0 : Int32)
  · skip
    refine oS (fun _ k => XS.ifYes X0.here hx rfl (pc0 := 1) (pc' := 10) rfl (hb hby d1_1) rfl (XT.i0_eq_t hc1) (by decide) (by decide) k) ?_
    refine oS (fun _ k => XS.iloadN X0.here hx rfl (hb hby d1_10) rfl k) ?_
    refine oS (fun _ k => XS.i2c X0.here hx rfl (hb hby d1_11) rfl k) ?_
    show own_go _ _ _ _ _ _ _ (s₁.setTop (mkF m 12 #[.val (.int p1), .val (.int p2)] [(.int (p1.toUInt32.toUInt16.toUInt32.toInt32))]))
    exact own_retN X0 hx hlk (t := .char) hret (by simp) (XT.narrow_c _) (hb hby d1_12) (by decide) (by decide) ⟨_, rfl, N0, e0, own_chI _⟩
  · skip
    refine oS (fun _ k => XS.ifNo X0.here hx rfl (hb hby d1_1) rfl (XT.i0_eq_f hc1) k) ?_
    refine oS (fun _ k => XS.iloadN X0.here hx rfl (hb hby d1_4) rfl k) ?_
    refine oS (fun _ k => XS.bipush X0.here hx rfl (hb hby d1_5) k) ?_
    refine oS (fun _ k => XS.iand X0.here hx rfl (hb hby d1_7) rfl k) ?_
    refine oS (fun _ k => XS.i2c X0.here hx rfl (hb hby d1_8) rfl k) ?_
    show own_go _ _ _ _ _ _ _ (s₁.setTop (mkF m 9 #[.val (.int p1), .val (.int p2)] [(.int ((p1 &&& (127 : Int32)).toUInt32.toUInt16.toUInt32.toInt32))]))
    exact own_retN X0 hx hlk (t := .char) hret (by simp) (XT.narrow_c _) (hb hby d1_9) (by decide) (by decide) ⟨_, rfl, N0, e0, own_chI _⟩
theorem d10_0 : decode method_4_code 0 = .ok (.iload_n 0, 1) := by decide +kernel
theorem d10_1 : decode method_4_code 1 = .ok (.bipush 32, 2) := by decide +kernel
theorem d10_3 : decode method_4_code 3 = .ok (.if_icmp .lt 13, 3) := by decide +kernel
theorem d10_6 : decode method_4_code 6 = .ok (.iload_n 0, 1) := by decide +kernel
theorem d10_7 : decode method_4_code 7 = .ok (.bipush 126, 2) := by decide +kernel
theorem d10_9 : decode method_4_code 9 = .ok (.if_icmp .gt 7, 3) := by decide +kernel
theorem d10_12 : decode method_4_code 12 = .ok (.iconst 1, 1) := by decide +kernel
theorem d10_13 : decode method_4_code 13 = .ok (.goto 4, 3) := by decide +kernel
theorem d10_17 : decode method_4_code 17 = .ok (.ireturn, 1) := by decide +kernel
theorem own_pn_10 : plainFor (⟨"com/example/lynceus/lynceus/probe/HeaderValueKeepablePinLaw", "printable", "(C)Z"⟩ : MethodName) = true := plainFor_of_name (show plainName "com/example/lynceus/lynceus/probe/HeaderValueKeepablePinLaw" = true by first | (simp [plainName, overriddenIn]; done) | decide +kernel)
theorem own_ef_rm_pr1 (m : MethodId) (x : Int32) : entryFrame m #[(.int x)] 1 = mkF m 0 #[.val (.int x)] [] := by first | (simp [entryFrame, mkF, argsToLocals, Value.category]; done) | rfl
set_option maxRecDepth 65536 in
set_option maxHeartbeats 40000000 in
theorem rm_pr1 (l : Launch) (Z : State) (a0 : Array Value) (hw : ∀ d ∈ tables_1, d.before a0 Z = true) (x : Int32) (h0 : Heap) (n0 : Nat) (O0 : Old Z n0 h0) (q : own_ok x) :
    own_Met l Z (⟨"com/example/lynceus/lynceus/probe/HeaderValueKeepablePinLaw", "printable", "(C)Z"⟩ : MethodName) method_4_code 1 (some .boolean) [] ({ frames := 0, cells := 0, slots := 0, locals := 0 } : Room) #[(.int x)] h0 (fun v h L => v = some (.int (1 : Int32)) ∧ Fr n0 L ∧ h = h0) := by
  refine own_body own_pn_10 ?_
  intro p e s m below meth c s₁ hx hby hml hown hnm hret hlk X0 hZ e0
  replace hown : s.vm.findClass "com/example/lynceus/lynceus/probe/HeaderValueKeepablePinLaw" = some m.cls := hown
  have N0 := Fr.nil n0
  have K0 := Keep.refl h0 []
  refine oS (fun _ k => castTop (own_ef_rm_pr1 m x) k) ?_
  show own_go _ _ _ _ _ _ _ (s₁.setTop (mkF m 0 #[.val (.int x)] []))
  refine oS (fun _ k => XS.iloadN X0.here hx rfl (hb hby d10_0) rfl k) ?_
  refine oS (fun _ k => XS.bipush X0.here hx rfl (hb hby d10_1) k) ?_
  show own_go _ _ _ _ _ _ _ (s₁.setTop (mkF m 3 #[.val (.int x)] [(.int (32 : Int32)), (.int x)]))
  refine oS (fun _ k => XS.icmpNo X0.here hx rfl (hb hby d10_3) rfl (XT.ii_lt_f q.1) k) ?_
  refine oS (fun _ k => XS.iloadN X0.here hx rfl (hb hby d10_6) rfl k) ?_
  refine oS (fun _ k => XS.bipush X0.here hx rfl (hb hby d10_7) k) ?_
  show own_go _ _ _ _ _ _ _ (s₁.setTop (mkF m 9 #[.val (.int x)] [(.int (126 : Int32)), (.int x)]))
  refine oS (fun _ k => XS.icmpNo X0.here hx rfl (hb hby d10_9) rfl (XT.ii_gt_f q.2) k) ?_
  refine oS (fun _ k => XS.iconst X0.here hx rfl (hb hby d10_12) k) ?_
  refine oS (fun _ k => XS.goto X0.here hx rfl (pc0 := 13) (pc' := 17) rfl (hb hby d10_13) (by decide) (by decide) k) ?_
  show own_go _ _ _ _ _ _ _ (s₁.setTop (mkF m 17 #[.val (.int x)] [(.int (1 : Int32))]))
  exact own_retN X0 hx hlk (t := .boolean) hret (by simp) rfl (hb hby d10_17) (by decide) (by decide) (⟨rfl, N0, e0⟩)
theorem d10_16 : decode method_4_code 16 = .ok (.iconst 0, 1) := by decide +kernel
theorem own_ef_rm_pr0 (m : MethodId) (x : Int32) : entryFrame m #[(.int x)] 1 = mkF m 0 #[.val (.int x)] [] := by first | (simp [entryFrame, mkF, argsToLocals, Value.category]; done) | rfl
set_option maxRecDepth 65536 in
set_option maxHeartbeats 40000000 in
theorem rm_pr0 (l : Launch) (Z : State) (a0 : Array Value) (hw : ∀ d ∈ tables_1, d.before a0 Z = true) (x : Int32) (h0 : Heap) (n0 : Nat) (O0 : Old Z n0 h0) (q : ¬ own_ok x) :
    own_Met l Z (⟨"com/example/lynceus/lynceus/probe/HeaderValueKeepablePinLaw", "printable", "(C)Z"⟩ : MethodName) method_4_code 1 (some .boolean) [] ({ frames := 0, cells := 0, slots := 0, locals := 0 } : Room) #[(.int x)] h0 (fun v h L => v = some (.int (0 : Int32)) ∧ Fr n0 L ∧ h = h0) := by
  refine own_body own_pn_10 ?_
  intro p e s m below meth c s₁ hx hby hml hown hnm hret hlk X0 hZ e0
  replace hown : s.vm.findClass "com/example/lynceus/lynceus/probe/HeaderValueKeepablePinLaw" = some m.cls := hown
  have N0 := Fr.nil n0
  have K0 := Keep.refl h0 []
  refine oS (fun _ k => castTop (own_ef_rm_pr0 m x) k) ?_
  show own_go _ _ _ _ _ _ _ (s₁.setTop (mkF m 0 #[.val (.int x)] []))
  refine oS (fun _ k => XS.iloadN X0.here hx rfl (hb hby d10_0) rfl k) ?_
  refine oS (fun _ k => XS.bipush X0.here hx rfl (hb hby d10_1) k) ?_
  show own_go _ _ _ _ _ _ _ (s₁.setTop (mkF m 3 #[.val (.int x)] [(.int (32 : Int32)), (.int x)]))
  by_cases hc2 : x < (32 : Int32)
  · skip
    refine oS (fun _ k => XS.icmpYes X0.here hx rfl (pc0 := 3) (pc' := 16) rfl (hb hby d10_3) rfl (XT.ii_lt_t hc2) (by decide) (by decide) k) ?_
    refine oS (fun _ k => XS.iconst X0.here hx rfl (hb hby d10_16) k) ?_
    show own_go _ _ _ _ _ _ _ (s₁.setTop (mkF m 17 #[.val (.int x)] [(.int (0 : Int32))]))
    exact own_retN X0 hx hlk (t := .boolean) hret (by simp) rfl (hb hby d10_17) (by decide) (by decide) (⟨rfl, N0, e0⟩)
  · skip
    refine oS (fun _ k => XS.icmpNo X0.here hx rfl (hb hby d10_3) rfl (XT.ii_lt_f hc2) k) ?_
    refine oS (fun _ k => XS.iloadN X0.here hx rfl (hb hby d10_6) rfl k) ?_
    refine oS (fun _ k => XS.bipush X0.here hx rfl (hb hby d10_7) k) ?_
    show own_go _ _ _ _ _ _ _ (s₁.setTop (mkF m 9 #[.val (.int x)] [(.int (126 : Int32)), (.int x)]))
    by_cases hc3 : (126 : Int32) < x
    · skip
      refine oS (fun _ k => XS.icmpYes X0.here hx rfl (pc0 := 9) (pc' := 16) rfl (hb hby d10_9) rfl (XT.ii_gt_t hc3) (by decide) (by decide) k) ?_
      refine oS (fun _ k => XS.iconst X0.here hx rfl (hb hby d10_16) k) ?_
      show own_go _ _ _ _ _ _ _ (s₁.setTop (mkF m 17 #[.val (.int x)] [(.int (0 : Int32))]))
      exact own_retN X0 hx hlk (t := .boolean) hret (by simp) rfl (hb hby d10_17) (by decide) (by decide) (⟨rfl, N0, e0⟩)
    · skip
      refine oS (fun _ k => XS.icmpNo X0.here hx rfl (hb hby d10_9) rfl (XT.ii_gt_f hc3) k) ?_
      show own_go _ _ _ _ _ _ _ (s₁.setTop (mkF m 12 #[.val (.int x)] []))
      exact absurd (⟨hc2, hc3⟩ : own_ok x) q
theorem d12_0 : decode jdk_42_method_152_code 0 = .ok (.getstatic 38, 3) := by decide +kernel
theorem d12_3 : decode jdk_42_method_152_code 3 = .ok (.ifCond .eq 10, 3) := by decide +kernel
theorem d12_6 : decode jdk_42_method_152_code 6 = .ok (.aload_n 0, 1) := by decide +kernel
theorem d12_7 : decode jdk_42_method_152_code 7 = .ok (.getfield 15, 3) := by decide +kernel
theorem d12_10 : decode jdk_42_method_152_code 10 = .ok (.goto 4, 3) := by decide +kernel
theorem d12_14 : decode jdk_42_method_152_code 14 = .ok (.ireturn, 1) := by decide +kernel
theorem own_pn_12 : plainFor (⟨"java/lang/String", "coder", "()B"⟩ : MethodName) = true := plainFor_of_name (show plainName "java/lang/String" = true by first | (simp [plainName, overriddenIn]; done) | decide +kernel)
theorem own_ef_rm_coder_0 (m : MethodId) (a1 : Addr) : entryFrame m #[(.ref a1)] 1 = mkF m 0 #[.val (.ref a1)] [] := by first | (simp [entryFrame, mkF, argsToLocals, Value.category]; done) | rfl
set_option maxRecDepth 65536 in
set_option maxHeartbeats 40000000 in
theorem rm_coder_0 (l : Launch) (Z : State) (a0 : Array Value) (hw : ∀ d ∈ tables_1, d.before a0 Z = true) (a1 : Addr) (zC : Int32) (vS : Value) (h0 : Heap) (n0 : Nat) (O0 : Old Z n0 h0) (hS : own_S Z zC vS) (F2 : Fld Z h0 a1 "java/lang/String" "coder" "B" (.int (0 : Int32))) :
    own_Met l Z (⟨"java/lang/String", "coder", "()B"⟩ : MethodName) jdk_42_method_152_code 1 (some .byte) [] ({ frames := 0, cells := 0, slots := 0, locals := 0 } : Room) #[(.ref a1)] h0 (fun v h L => v = some (.int (0 : Int32)) ∧ Fr n0 L ∧ h = h0) := by
  refine own_body own_pn_12 ?_
  intro p e s m below meth c s₁ hx hby hml hown hnm hret hlk X0 hZ e0
  replace hown : s.vm.findClass "java/lang/String" = some m.cls := hown
  have N0 := Fr.nil n0
  have K0 := Keep.refl h0 []
  refine oS (fun _ k => castTop (own_ef_rm_coder_0 m a1) k) ?_
  show own_go _ _ _ _ _ _ _ (s₁.setTop (mkF m 0 #[.val (.ref a1)] []))
  obtain ⟨T4, X4, e4, st4⟩ := getS2 X0 hx hZ hown (host := "") (Or.inl (ow hw 35 rfl)) Via.refl e0 (hS.1.ext O0.2) (g := (mkF m 0 #[.val (.ref a1)] [])) rfl (hb hby d12_0)
  refine oS st4 ?_
  show own_go _ _ _ _ _ _ _ (T4.setTop (mkF m 3 #[.val (.ref a1)] [(.int zC)]))
  refine oS (fun _ k => XS.ifNo X4.here hx rfl (hb hby d12_3) rfl (XT.i0_eq_f hS.2.1) k) ?_
  refine oS (fun _ k => XS.aloadN X4.here hx rfl (hb hby d12_6) rfl rfl k) ?_
  show own_go _ _ _ _ _ _ _ (T4.setTop (mkF m 7 #[.val (.ref a1)] [(.ref a1)]))
  obtain ⟨T5, X5, e5, st5⟩ := getF X4 hx hZ hown (host := "") (Or.inl (ow hw 25 rfl)) Via.refl e4 F2 (g := (mkF m 7 #[.val (.ref a1)] [(.ref a1)])) rfl rfl (hb hby d12_7)
  refine oS st5 ?_
  show own_go _ _ _ _ _ _ _ (T5.setTop (mkF m 10 #[.val (.ref a1)] [(.int (0 : Int32))]))
  refine oS (fun _ k => XS.goto X5.here hx rfl (pc0 := 10) (pc' := 14) rfl (hb hby d12_10) (by decide) (by decide) k) ?_
  show own_go _ _ _ _ _ _ _ (T5.setTop (mkF m 14 #[.val (.ref a1)] [(.int (0 : Int32))]))
  exact own_retN X5 hx hlk (t := .byte) hret (by simp) rfl (hb hby d12_14) (by decide) (by decide) (⟨rfl, N0, e5⟩)
theorem d14_0 : decode jdk_42_method_154_code 0 = .ok (.getstatic 38, 3) := by decide +kernel
theorem d14_3 : decode jdk_42_method_154_code 3 = .ok (.ifCond .eq 14, 3) := by decide +kernel
theorem d14_6 : decode jdk_42_method_154_code 6 = .ok (.aload_n 0, 1) := by decide +kernel
theorem d14_7 : decode jdk_42_method_154_code 7 = .ok (.getfield 15, 3) := by decide +kernel
theorem d14_10 : decode jdk_42_method_154_code 10 = .ok (.ifCond .ne 7, 3) := by decide +kernel
theorem d14_13 : decode jdk_42_method_154_code 13 = .ok (.iconst 1, 1) := by decide +kernel
theorem d14_14 : decode jdk_42_method_154_code 14 = .ok (.goto 4, 3) := by decide +kernel
theorem d14_18 : decode jdk_42_method_154_code 18 = .ok (.ireturn, 1) := by decide +kernel
theorem own_pn_14 : plainFor (⟨"java/lang/String", "isLatin1", "()Z"⟩ : MethodName) = true := plainFor_of_name (show plainName "java/lang/String" = true by first | (simp [plainName, overriddenIn]; done) | decide +kernel)
theorem own_ef_rm_isLatin1_0 (m : MethodId) (a1 : Addr) : entryFrame m #[(.ref a1)] 1 = mkF m 0 #[.val (.ref a1)] [] := by first | (simp [entryFrame, mkF, argsToLocals, Value.category]; done) | rfl
set_option maxRecDepth 65536 in
set_option maxHeartbeats 40000000 in
theorem rm_isLatin1_0 (l : Launch) (Z : State) (a0 : Array Value) (hw : ∀ d ∈ tables_1, d.before a0 Z = true) (a1 : Addr) (zC : Int32) (vS : Value) (h0 : Heap) (n0 : Nat) (O0 : Old Z n0 h0) (hS : own_S Z zC vS) (F2 : Fld Z h0 a1 "java/lang/String" "coder" "B" (.int (0 : Int32))) :
    own_Met l Z (⟨"java/lang/String", "isLatin1", "()Z"⟩ : MethodName) jdk_42_method_154_code 1 (some .boolean) [] ({ frames := 0, cells := 0, slots := 0, locals := 0 } : Room) #[(.ref a1)] h0 (fun v h L => v = some (.int (1 : Int32)) ∧ Fr n0 L ∧ h = h0) := by
  refine own_body own_pn_14 ?_
  intro p e s m below meth c s₁ hx hby hml hown hnm hret hlk X0 hZ e0
  replace hown : s.vm.findClass "java/lang/String" = some m.cls := hown
  have N0 := Fr.nil n0
  have K0 := Keep.refl h0 []
  refine oS (fun _ k => castTop (own_ef_rm_isLatin1_0 m a1) k) ?_
  show own_go _ _ _ _ _ _ _ (s₁.setTop (mkF m 0 #[.val (.ref a1)] []))
  obtain ⟨T6, X6, e6, st6⟩ := getS2 X0 hx hZ hown (host := "") (Or.inl (ow hw 35 rfl)) Via.refl e0 (hS.1.ext O0.2) (g := (mkF m 0 #[.val (.ref a1)] [])) rfl (hb hby d14_0)
  refine oS st6 ?_
  show own_go _ _ _ _ _ _ _ (T6.setTop (mkF m 3 #[.val (.ref a1)] [(.int zC)]))
  refine oS (fun _ k => XS.ifNo X6.here hx rfl (hb hby d14_3) rfl (XT.i0_eq_f hS.2.1) k) ?_
  refine oS (fun _ k => XS.aloadN X6.here hx rfl (hb hby d14_6) rfl rfl k) ?_
  show own_go _ _ _ _ _ _ _ (T6.setTop (mkF m 7 #[.val (.ref a1)] [(.ref a1)]))
  obtain ⟨T7, X7, e7, st7⟩ := getF X6 hx hZ hown (host := "") (Or.inl (ow hw 25 rfl)) Via.refl e6 F2 (g := (mkF m 7 #[.val (.ref a1)] [(.ref a1)])) rfl rfl (hb hby d14_7)
  refine oS st7 ?_
  show own_go _ _ _ _ _ _ _ (T7.setTop (mkF m 10 #[.val (.ref a1)] [(.int (0 : Int32))]))
  refine oS (fun _ k => XS.ifNo X7.here hx rfl (hb hby d14_10) rfl (by decide) k) ?_
  refine oS (fun _ k => XS.iconst X7.here hx rfl (hb hby d14_13) k) ?_
  refine oS (fun _ k => XS.goto X7.here hx rfl (pc0 := 14) (pc' := 18) rfl (hb hby d14_14) (by decide) (by decide) k) ?_
  show own_go _ _ _ _ _ _ _ (T7.setTop (mkF m 18 #[.val (.ref a1)] [(.int (1 : Int32))]))
  exact own_retN X7 hx hlk (t := .boolean) hret (by simp) rfl (hb hby d14_18) (by decide) (by decide) (⟨rfl, N0, e7⟩)
theorem own_ef_rm_coder_1 (m : MethodId) (a1 : Addr) : entryFrame m #[(.ref a1)] 1 = mkF m 0 #[.val (.ref a1)] [] := by first | (simp [entryFrame, mkF, argsToLocals, Value.category]; done) | rfl
set_option maxRecDepth 65536 in
set_option maxHeartbeats 40000000 in
theorem rm_coder_1 (l : Launch) (Z : State) (a0 : Array Value) (hw : ∀ d ∈ tables_1, d.before a0 Z = true) (a1 : Addr) (zC : Int32) (vS : Value) (h0 : Heap) (n0 : Nat) (O0 : Old Z n0 h0) (hS : own_S Z zC vS) (F2 : Fld Z h0 a1 "java/lang/String" "coder" "B" (.int (1 : Int32))) :
    own_Met l Z (⟨"java/lang/String", "coder", "()B"⟩ : MethodName) jdk_42_method_152_code 1 (some .byte) [] ({ frames := 0, cells := 0, slots := 0, locals := 0 } : Room) #[(.ref a1)] h0 (fun v h L => v = some (.int (1 : Int32)) ∧ Fr n0 L ∧ h = h0) := by
  refine own_body own_pn_12 ?_
  intro p e s m below meth c s₁ hx hby hml hown hnm hret hlk X0 hZ e0
  replace hown : s.vm.findClass "java/lang/String" = some m.cls := hown
  have N0 := Fr.nil n0
  have K0 := Keep.refl h0 []
  refine oS (fun _ k => castTop (own_ef_rm_coder_1 m a1) k) ?_
  show own_go _ _ _ _ _ _ _ (s₁.setTop (mkF m 0 #[.val (.ref a1)] []))
  obtain ⟨T8, X8, e8, st8⟩ := getS2 X0 hx hZ hown (host := "") (Or.inl (ow hw 35 rfl)) Via.refl e0 (hS.1.ext O0.2) (g := (mkF m 0 #[.val (.ref a1)] [])) rfl (hb hby d12_0)
  refine oS st8 ?_
  show own_go _ _ _ _ _ _ _ (T8.setTop (mkF m 3 #[.val (.ref a1)] [(.int zC)]))
  refine oS (fun _ k => XS.ifNo X8.here hx rfl (hb hby d12_3) rfl (XT.i0_eq_f hS.2.1) k) ?_
  refine oS (fun _ k => XS.aloadN X8.here hx rfl (hb hby d12_6) rfl rfl k) ?_
  show own_go _ _ _ _ _ _ _ (T8.setTop (mkF m 7 #[.val (.ref a1)] [(.ref a1)]))
  obtain ⟨T9, X9, e9, st9⟩ := getF X8 hx hZ hown (host := "") (Or.inl (ow hw 25 rfl)) Via.refl e8 F2 (g := (mkF m 7 #[.val (.ref a1)] [(.ref a1)])) rfl rfl (hb hby d12_7)
  refine oS st9 ?_
  show own_go _ _ _ _ _ _ _ (T9.setTop (mkF m 10 #[.val (.ref a1)] [(.int (1 : Int32))]))
  refine oS (fun _ k => XS.goto X9.here hx rfl (pc0 := 10) (pc' := 14) rfl (hb hby d12_10) (by decide) (by decide) k) ?_
  show own_go _ _ _ _ _ _ _ (T9.setTop (mkF m 14 #[.val (.ref a1)] [(.int (1 : Int32))]))
  exact own_retN X9 hx hlk (t := .byte) hret (by simp) rfl (hb hby d12_14) (by decide) (by decide) (⟨rfl, N0, e9⟩)
theorem d14_17 : decode jdk_42_method_154_code 17 = .ok (.iconst 0, 1) := by decide +kernel
theorem own_ef_rm_isLatin1_1 (m : MethodId) (a1 : Addr) : entryFrame m #[(.ref a1)] 1 = mkF m 0 #[.val (.ref a1)] [] := by first | (simp [entryFrame, mkF, argsToLocals, Value.category]; done) | rfl
set_option maxRecDepth 65536 in
set_option maxHeartbeats 40000000 in
theorem rm_isLatin1_1 (l : Launch) (Z : State) (a0 : Array Value) (hw : ∀ d ∈ tables_1, d.before a0 Z = true) (a1 : Addr) (zC : Int32) (vS : Value) (h0 : Heap) (n0 : Nat) (O0 : Old Z n0 h0) (hS : own_S Z zC vS) (F2 : Fld Z h0 a1 "java/lang/String" "coder" "B" (.int (1 : Int32))) :
    own_Met l Z (⟨"java/lang/String", "isLatin1", "()Z"⟩ : MethodName) jdk_42_method_154_code 1 (some .boolean) [] ({ frames := 0, cells := 0, slots := 0, locals := 0 } : Room) #[(.ref a1)] h0 (fun v h L => v = some (.int (0 : Int32)) ∧ Fr n0 L ∧ h = h0) := by
  refine own_body own_pn_14 ?_
  intro p e s m below meth c s₁ hx hby hml hown hnm hret hlk X0 hZ e0
  replace hown : s.vm.findClass "java/lang/String" = some m.cls := hown
  have N0 := Fr.nil n0
  have K0 := Keep.refl h0 []
  refine oS (fun _ k => castTop (own_ef_rm_isLatin1_1 m a1) k) ?_
  show own_go _ _ _ _ _ _ _ (s₁.setTop (mkF m 0 #[.val (.ref a1)] []))
  obtain ⟨T10, X10, e10, st10⟩ := getS2 X0 hx hZ hown (host := "") (Or.inl (ow hw 35 rfl)) Via.refl e0 (hS.1.ext O0.2) (g := (mkF m 0 #[.val (.ref a1)] [])) rfl (hb hby d14_0)
  refine oS st10 ?_
  show own_go _ _ _ _ _ _ _ (T10.setTop (mkF m 3 #[.val (.ref a1)] [(.int zC)]))
  refine oS (fun _ k => XS.ifNo X10.here hx rfl (hb hby d14_3) rfl (XT.i0_eq_f hS.2.1) k) ?_
  refine oS (fun _ k => XS.aloadN X10.here hx rfl (hb hby d14_6) rfl rfl k) ?_
  show own_go _ _ _ _ _ _ _ (T10.setTop (mkF m 7 #[.val (.ref a1)] [(.ref a1)]))
  obtain ⟨T11, X11, e11, st11⟩ := getF X10 hx hZ hown (host := "") (Or.inl (ow hw 25 rfl)) Via.refl e10 F2 (g := (mkF m 7 #[.val (.ref a1)] [(.ref a1)])) rfl rfl (hb hby d14_7)
  refine oS st11 ?_
  show own_go _ _ _ _ _ _ _ (T11.setTop (mkF m 10 #[.val (.ref a1)] [(.int (1 : Int32))]))
  refine oS (fun _ k => XS.ifYes X11.here hx rfl (pc0 := 10) (pc' := 17) rfl (hb hby d14_10) rfl (by decide) (by decide) (by decide) k) ?_
  refine oS (fun _ k => XS.iconst X11.here hx rfl (hb hby d14_17) k) ?_
  show own_go _ _ _ _ _ _ _ (T11.setTop (mkF m 18 #[.val (.ref a1)] [(.int (0 : Int32))]))
  exact own_retN X11 hx hlk (t := .boolean) hret (by simp) rfl (hb hby d14_18) (by decide) (by decide) (⟨rfl, N0, e11⟩)
theorem d6_0 : decode jdk_42_method_55_code 0 = .ok (.aload_n 0, 1) := by decide +kernel
theorem d6_1 : decode jdk_42_method_55_code 1 = .ok (.getfield 9, 3) := by decide +kernel
theorem d6_4 : decode jdk_42_method_55_code 4 = .ok (.arraylength, 1) := by decide +kernel
theorem d6_5 : decode jdk_42_method_55_code 5 = .ok (.ifCond .ne 7, 3) := by decide +kernel
theorem d6_8 : decode jdk_42_method_55_code 8 = .ok (.iconst 1, 1) := by decide +kernel
theorem d6_9 : decode jdk_42_method_55_code 9 = .ok (.goto 4, 3) := by decide +kernel
theorem d6_13 : decode jdk_42_method_55_code 13 = .ok (.ireturn, 1) := by decide +kernel
theorem own_pn_6 : plainFor (⟨"java/lang/String", "isEmpty", "()Z"⟩ : MethodName) = true := plainFor_of_name (show plainName "java/lang/String" = true by first | (simp [plainName, overriddenIn]; done) | decide +kernel)
theorem own_ef_rm_emp_0 (m : MethodId) (a1 : Addr) : entryFrame m #[(.ref a1)] 1 = mkF m 0 #[.val (.ref a1)] [] := by first | (simp [entryFrame, mkF, argsToLocals, Value.category]; done) | rfl
set_option maxRecDepth 65536 in
set_option maxHeartbeats 40000000 in
theorem rm_emp_0 (l : Launch) (Z : State) (a0 : Array Value) (hw : ∀ d ∈ tables_1, d.before a0 Z = true) (a1 t : Addr) (k : ClassId) (vs : List Value) (h0 : Heap) (n0 : Nat) (O0 : Old Z n0 h0) (F1 : Fld Z h0 a1 "java/lang/String" "value" "[B" (.ref t)) (V1 : Arv Z h0 t k .byte (0 : Int32) vs (.int (0 : Int32))) :
    own_Met l Z (⟨"java/lang/String", "isEmpty", "()Z"⟩ : MethodName) jdk_42_method_55_code 1 (some .boolean) [] ({ frames := 0, cells := 0, slots := 0, locals := 0 } : Room) #[(.ref a1)] h0 (fun v h L => v = some (.int (1 : Int32)) ∧ Fr n0 L ∧ h = h0) := by
  refine own_body own_pn_6 ?_
  intro p e s m below meth c s₁ hx hby hml hown hnm hret hlk X0 hZ e0
  replace hown : s.vm.findClass "java/lang/String" = some m.cls := hown
  have N0 := Fr.nil n0
  have K0 := Keep.refl h0 []
  refine oS (fun _ k => castTop (own_ef_rm_emp_0 m a1) k) ?_
  show own_go _ _ _ _ _ _ _ (s₁.setTop (mkF m 0 #[.val (.ref a1)] []))
  refine oS (fun _ k => XS.aloadN X0.here hx rfl (hb hby d6_0) rfl rfl k) ?_
  show own_go _ _ _ _ _ _ _ (s₁.setTop (mkF m 1 #[.val (.ref a1)] [(.ref a1)]))
  obtain ⟨T12, X12, e12, st12⟩ := getF X0 hx hZ hown (host := "") (Or.inl (ow hw 24 rfl)) Via.refl e0 F1 (g := (mkF m 1 #[.val (.ref a1)] [(.ref a1)])) rfl rfl (hb hby d6_1)
  refine oS st12 ?_
  show own_go _ _ _ _ _ _ _ (T12.setTop (mkF m 4 #[.val (.ref a1)] [(.ref t)]))
  refine oS (own_len X12 hx hZ e12 V1 (g := (mkF m 4 #[.val (.ref a1)] [(.ref t)])) rfl rfl (hb hby d6_4)) ?_
  show own_go _ _ _ _ _ _ _ (T12.setTop (mkF m 5 #[.val (.ref a1)] [(.int (0 : Int32))]))
  refine oS (fun _ k => XS.ifNo X12.here hx rfl (hb hby d6_5) rfl (by decide) k) ?_
  refine oS (fun _ k => XS.iconst X12.here hx rfl (hb hby d6_8) k) ?_
  refine oS (fun _ k => XS.goto X12.here hx rfl (pc0 := 9) (pc' := 13) rfl (hb hby d6_9) (by decide) (by decide) k) ?_
  show own_go _ _ _ _ _ _ _ (T12.setTop (mkF m 13 #[.val (.ref a1)] [(.int (1 : Int32))]))
  exact own_retN X12 hx hlk (t := .boolean) hret (by simp) rfl (hb hby d6_13) (by decide) (by decide) (⟨rfl, N0, e12⟩)
theorem d6_12 : decode jdk_42_method_55_code 12 = .ok (.iconst 0, 1) := by decide +kernel
theorem own_ef_rm_emp_1 (m : MethodId) (a1 : Addr) : entryFrame m #[(.ref a1)] 1 = mkF m 0 #[.val (.ref a1)] [] := by first | (simp [entryFrame, mkF, argsToLocals, Value.category]; done) | rfl
set_option maxRecDepth 65536 in
set_option maxHeartbeats 40000000 in
theorem rm_emp_1 (l : Launch) (Z : State) (a0 : Array Value) (hw : ∀ d ∈ tables_1, d.before a0 Z = true) (a1 t : Addr) (k : ClassId) (vs : List Value) (h0 : Heap) (n0 : Nat) (O0 : Old Z n0 h0) (F1 : Fld Z h0 a1 "java/lang/String" "value" "[B" (.ref t)) (V1 : Arv Z h0 t k .byte (1 : Int32) vs (.int (0 : Int32))) :
    own_Met l Z (⟨"java/lang/String", "isEmpty", "()Z"⟩ : MethodName) jdk_42_method_55_code 1 (some .boolean) [] ({ frames := 0, cells := 0, slots := 0, locals := 0 } : Room) #[(.ref a1)] h0 (fun v h L => v = some (.int (0 : Int32)) ∧ Fr n0 L ∧ h = h0) := by
  refine own_body own_pn_6 ?_
  intro p e s m below meth c s₁ hx hby hml hown hnm hret hlk X0 hZ e0
  replace hown : s.vm.findClass "java/lang/String" = some m.cls := hown
  have N0 := Fr.nil n0
  have K0 := Keep.refl h0 []
  refine oS (fun _ k => castTop (own_ef_rm_emp_1 m a1) k) ?_
  show own_go _ _ _ _ _ _ _ (s₁.setTop (mkF m 0 #[.val (.ref a1)] []))
  refine oS (fun _ k => XS.aloadN X0.here hx rfl (hb hby d6_0) rfl rfl k) ?_
  show own_go _ _ _ _ _ _ _ (s₁.setTop (mkF m 1 #[.val (.ref a1)] [(.ref a1)]))
  obtain ⟨T13, X13, e13, st13⟩ := getF X0 hx hZ hown (host := "") (Or.inl (ow hw 24 rfl)) Via.refl e0 F1 (g := (mkF m 1 #[.val (.ref a1)] [(.ref a1)])) rfl rfl (hb hby d6_1)
  refine oS st13 ?_
  show own_go _ _ _ _ _ _ _ (T13.setTop (mkF m 4 #[.val (.ref a1)] [(.ref t)]))
  refine oS (own_len X13 hx hZ e13 V1 (g := (mkF m 4 #[.val (.ref a1)] [(.ref t)])) rfl rfl (hb hby d6_4)) ?_
  show own_go _ _ _ _ _ _ _ (T13.setTop (mkF m 5 #[.val (.ref a1)] [(.int (1 : Int32))]))
  refine oS (fun _ k => XS.ifYes X13.here hx rfl (pc0 := 5) (pc' := 12) rfl (hb hby d6_5) rfl (by decide) (by decide) (by decide) k) ?_
  refine oS (fun _ k => XS.iconst X13.here hx rfl (hb hby d6_12) k) ?_
  show own_go _ _ _ _ _ _ _ (T13.setTop (mkF m 13 #[.val (.ref a1)] [(.int (0 : Int32))]))
  exact own_retN X13 hx hlk (t := .boolean) hret (by simp) rfl (hb hby d6_13) (by decide) (by decide) (⟨rfl, N0, e13⟩)
theorem own_ef_rm_emp_2 (m : MethodId) (a1 : Addr) : entryFrame m #[(.ref a1)] 1 = mkF m 0 #[.val (.ref a1)] [] := by first | (simp [entryFrame, mkF, argsToLocals, Value.category]; done) | rfl
set_option maxRecDepth 65536 in
set_option maxHeartbeats 40000000 in
theorem rm_emp_2 (l : Launch) (Z : State) (a0 : Array Value) (hw : ∀ d ∈ tables_1, d.before a0 Z = true) (a1 t : Addr) (k : ClassId) (vs : List Value) (h0 : Heap) (n0 : Nat) (O0 : Old Z n0 h0) (F1 : Fld Z h0 a1 "java/lang/String" "value" "[B" (.ref t)) (V1 : Arv Z h0 t k .byte (2 : Int32) vs (.int (0 : Int32))) :
    own_Met l Z (⟨"java/lang/String", "isEmpty", "()Z"⟩ : MethodName) jdk_42_method_55_code 1 (some .boolean) [] ({ frames := 0, cells := 0, slots := 0, locals := 0 } : Room) #[(.ref a1)] h0 (fun v h L => v = some (.int (0 : Int32)) ∧ Fr n0 L ∧ h = h0) := by
  refine own_body own_pn_6 ?_
  intro p e s m below meth c s₁ hx hby hml hown hnm hret hlk X0 hZ e0
  replace hown : s.vm.findClass "java/lang/String" = some m.cls := hown
  have N0 := Fr.nil n0
  have K0 := Keep.refl h0 []
  refine oS (fun _ k => castTop (own_ef_rm_emp_2 m a1) k) ?_
  show own_go _ _ _ _ _ _ _ (s₁.setTop (mkF m 0 #[.val (.ref a1)] []))
  refine oS (fun _ k => XS.aloadN X0.here hx rfl (hb hby d6_0) rfl rfl k) ?_
  show own_go _ _ _ _ _ _ _ (s₁.setTop (mkF m 1 #[.val (.ref a1)] [(.ref a1)]))
  obtain ⟨T14, X14, e14, st14⟩ := getF X0 hx hZ hown (host := "") (Or.inl (ow hw 24 rfl)) Via.refl e0 F1 (g := (mkF m 1 #[.val (.ref a1)] [(.ref a1)])) rfl rfl (hb hby d6_1)
  refine oS st14 ?_
  show own_go _ _ _ _ _ _ _ (T14.setTop (mkF m 4 #[.val (.ref a1)] [(.ref t)]))
  refine oS (own_len X14 hx hZ e14 V1 (g := (mkF m 4 #[.val (.ref a1)] [(.ref t)])) rfl rfl (hb hby d6_4)) ?_
  show own_go _ _ _ _ _ _ _ (T14.setTop (mkF m 5 #[.val (.ref a1)] [(.int (2 : Int32))]))
  refine oS (fun _ k => XS.ifYes X14.here hx rfl (pc0 := 5) (pc' := 12) rfl (hb hby d6_5) rfl (by decide) (by decide) (by decide) k) ?_
  refine oS (fun _ k => XS.iconst X14.here hx rfl (hb hby d6_12) k) ?_
  show own_go _ _ _ _ _ _ _ (T14.setTop (mkF m 13 #[.val (.ref a1)] [(.int (0 : Int32))]))
  exact own_retN X14 hx hlk (t := .boolean) hret (by simp) rfl (hb hby d6_13) (by decide) (by decide) (⟨rfl, N0, e14⟩)
theorem own_ef_rm_emp_3 (m : MethodId) (a1 : Addr) : entryFrame m #[(.ref a1)] 1 = mkF m 0 #[.val (.ref a1)] [] := by first | (simp [entryFrame, mkF, argsToLocals, Value.category]; done) | rfl
set_option maxRecDepth 65536 in
set_option maxHeartbeats 40000000 in
theorem rm_emp_3 (l : Launch) (Z : State) (a0 : Array Value) (hw : ∀ d ∈ tables_1, d.before a0 Z = true) (a1 t : Addr) (k : ClassId) (vs : List Value) (h0 : Heap) (n0 : Nat) (O0 : Old Z n0 h0) (F1 : Fld Z h0 a1 "java/lang/String" "value" "[B" (.ref t)) (V1 : Arv Z h0 t k .byte (3 : Int32) vs (.int (0 : Int32))) :
    own_Met l Z (⟨"java/lang/String", "isEmpty", "()Z"⟩ : MethodName) jdk_42_method_55_code 1 (some .boolean) [] ({ frames := 0, cells := 0, slots := 0, locals := 0 } : Room) #[(.ref a1)] h0 (fun v h L => v = some (.int (0 : Int32)) ∧ Fr n0 L ∧ h = h0) := by
  refine own_body own_pn_6 ?_
  intro p e s m below meth c s₁ hx hby hml hown hnm hret hlk X0 hZ e0
  replace hown : s.vm.findClass "java/lang/String" = some m.cls := hown
  have N0 := Fr.nil n0
  have K0 := Keep.refl h0 []
  refine oS (fun _ k => castTop (own_ef_rm_emp_3 m a1) k) ?_
  show own_go _ _ _ _ _ _ _ (s₁.setTop (mkF m 0 #[.val (.ref a1)] []))
  refine oS (fun _ k => XS.aloadN X0.here hx rfl (hb hby d6_0) rfl rfl k) ?_
  show own_go _ _ _ _ _ _ _ (s₁.setTop (mkF m 1 #[.val (.ref a1)] [(.ref a1)]))
  obtain ⟨T15, X15, e15, st15⟩ := getF X0 hx hZ hown (host := "") (Or.inl (ow hw 24 rfl)) Via.refl e0 F1 (g := (mkF m 1 #[.val (.ref a1)] [(.ref a1)])) rfl rfl (hb hby d6_1)
  refine oS st15 ?_
  show own_go _ _ _ _ _ _ _ (T15.setTop (mkF m 4 #[.val (.ref a1)] [(.ref t)]))
  refine oS (own_len X15 hx hZ e15 V1 (g := (mkF m 4 #[.val (.ref a1)] [(.ref t)])) rfl rfl (hb hby d6_4)) ?_
  show own_go _ _ _ _ _ _ _ (T15.setTop (mkF m 5 #[.val (.ref a1)] [(.int (3 : Int32))]))
  refine oS (fun _ k => XS.ifYes X15.here hx rfl (pc0 := 5) (pc' := 12) rfl (hb hby d6_5) rfl (by decide) (by decide) (by decide) k) ?_
  refine oS (fun _ k => XS.iconst X15.here hx rfl (hb hby d6_12) k) ?_
  show own_go _ _ _ _ _ _ _ (T15.setTop (mkF m 13 #[.val (.ref a1)] [(.int (0 : Int32))]))
  exact own_retN X15 hx hlk (t := .boolean) hret (by simp) rfl (hb hby d6_13) (by decide) (by decide) (⟨rfl, N0, e15⟩)
theorem own_ef_rm_emp_4 (m : MethodId) (a1 : Addr) : entryFrame m #[(.ref a1)] 1 = mkF m 0 #[.val (.ref a1)] [] := by first | (simp [entryFrame, mkF, argsToLocals, Value.category]; done) | rfl
set_option maxRecDepth 65536 in
set_option maxHeartbeats 40000000 in
theorem rm_emp_4 (l : Launch) (Z : State) (a0 : Array Value) (hw : ∀ d ∈ tables_1, d.before a0 Z = true) (a1 t : Addr) (k : ClassId) (vs : List Value) (h0 : Heap) (n0 : Nat) (O0 : Old Z n0 h0) (F1 : Fld Z h0 a1 "java/lang/String" "value" "[B" (.ref t)) (V1 : Arv Z h0 t k .byte (4 : Int32) vs (.int (0 : Int32))) :
    own_Met l Z (⟨"java/lang/String", "isEmpty", "()Z"⟩ : MethodName) jdk_42_method_55_code 1 (some .boolean) [] ({ frames := 0, cells := 0, slots := 0, locals := 0 } : Room) #[(.ref a1)] h0 (fun v h L => v = some (.int (0 : Int32)) ∧ Fr n0 L ∧ h = h0) := by
  refine own_body own_pn_6 ?_
  intro p e s m below meth c s₁ hx hby hml hown hnm hret hlk X0 hZ e0
  replace hown : s.vm.findClass "java/lang/String" = some m.cls := hown
  have N0 := Fr.nil n0
  have K0 := Keep.refl h0 []
  refine oS (fun _ k => castTop (own_ef_rm_emp_4 m a1) k) ?_
  show own_go _ _ _ _ _ _ _ (s₁.setTop (mkF m 0 #[.val (.ref a1)] []))
  refine oS (fun _ k => XS.aloadN X0.here hx rfl (hb hby d6_0) rfl rfl k) ?_
  show own_go _ _ _ _ _ _ _ (s₁.setTop (mkF m 1 #[.val (.ref a1)] [(.ref a1)]))
  obtain ⟨T16, X16, e16, st16⟩ := getF X0 hx hZ hown (host := "") (Or.inl (ow hw 24 rfl)) Via.refl e0 F1 (g := (mkF m 1 #[.val (.ref a1)] [(.ref a1)])) rfl rfl (hb hby d6_1)
  refine oS st16 ?_
  show own_go _ _ _ _ _ _ _ (T16.setTop (mkF m 4 #[.val (.ref a1)] [(.ref t)]))
  refine oS (own_len X16 hx hZ e16 V1 (g := (mkF m 4 #[.val (.ref a1)] [(.ref t)])) rfl rfl (hb hby d6_4)) ?_
  show own_go _ _ _ _ _ _ _ (T16.setTop (mkF m 5 #[.val (.ref a1)] [(.int (4 : Int32))]))
  refine oS (fun _ k => XS.ifYes X16.here hx rfl (pc0 := 5) (pc' := 12) rfl (hb hby d6_5) rfl (by decide) (by decide) (by decide) k) ?_
  refine oS (fun _ k => XS.iconst X16.here hx rfl (hb hby d6_12) k) ?_
  show own_go _ _ _ _ _ _ _ (T16.setTop (mkF m 13 #[.val (.ref a1)] [(.int (0 : Int32))]))
  exact own_retN X16 hx hlk (t := .boolean) hret (by simp) rfl (hb hby d6_13) (by decide) (by decide) (⟨rfl, N0, e16⟩)
theorem own_ef_rm_emp_6 (m : MethodId) (a1 : Addr) : entryFrame m #[(.ref a1)] 1 = mkF m 0 #[.val (.ref a1)] [] := by first | (simp [entryFrame, mkF, argsToLocals, Value.category]; done) | rfl
set_option maxRecDepth 65536 in
set_option maxHeartbeats 40000000 in
theorem rm_emp_6 (l : Launch) (Z : State) (a0 : Array Value) (hw : ∀ d ∈ tables_1, d.before a0 Z = true) (a1 t : Addr) (k : ClassId) (vs : List Value) (h0 : Heap) (n0 : Nat) (O0 : Old Z n0 h0) (F1 : Fld Z h0 a1 "java/lang/String" "value" "[B" (.ref t)) (V1 : Arv Z h0 t k .byte (6 : Int32) vs (.int (0 : Int32))) :
    own_Met l Z (⟨"java/lang/String", "isEmpty", "()Z"⟩ : MethodName) jdk_42_method_55_code 1 (some .boolean) [] ({ frames := 0, cells := 0, slots := 0, locals := 0 } : Room) #[(.ref a1)] h0 (fun v h L => v = some (.int (0 : Int32)) ∧ Fr n0 L ∧ h = h0) := by
  refine own_body own_pn_6 ?_
  intro p e s m below meth c s₁ hx hby hml hown hnm hret hlk X0 hZ e0
  replace hown : s.vm.findClass "java/lang/String" = some m.cls := hown
  have N0 := Fr.nil n0
  have K0 := Keep.refl h0 []
  refine oS (fun _ k => castTop (own_ef_rm_emp_6 m a1) k) ?_
  show own_go _ _ _ _ _ _ _ (s₁.setTop (mkF m 0 #[.val (.ref a1)] []))
  refine oS (fun _ k => XS.aloadN X0.here hx rfl (hb hby d6_0) rfl rfl k) ?_
  show own_go _ _ _ _ _ _ _ (s₁.setTop (mkF m 1 #[.val (.ref a1)] [(.ref a1)]))
  obtain ⟨T17, X17, e17, st17⟩ := getF X0 hx hZ hown (host := "") (Or.inl (ow hw 24 rfl)) Via.refl e0 F1 (g := (mkF m 1 #[.val (.ref a1)] [(.ref a1)])) rfl rfl (hb hby d6_1)
  refine oS st17 ?_
  show own_go _ _ _ _ _ _ _ (T17.setTop (mkF m 4 #[.val (.ref a1)] [(.ref t)]))
  refine oS (own_len X17 hx hZ e17 V1 (g := (mkF m 4 #[.val (.ref a1)] [(.ref t)])) rfl rfl (hb hby d6_4)) ?_
  show own_go _ _ _ _ _ _ _ (T17.setTop (mkF m 5 #[.val (.ref a1)] [(.int (6 : Int32))]))
  refine oS (fun _ k => XS.ifYes X17.here hx rfl (pc0 := 5) (pc' := 12) rfl (hb hby d6_5) rfl (by decide) (by decide) (by decide) k) ?_
  refine oS (fun _ k => XS.iconst X17.here hx rfl (hb hby d6_12) k) ?_
  show own_go _ _ _ _ _ _ _ (T17.setTop (mkF m 13 #[.val (.ref a1)] [(.int (0 : Int32))]))
  exact own_retN X17 hx hlk (t := .boolean) hret (by simp) rfl (hb hby d6_13) (by decide) (by decide) (⟨rfl, N0, e17⟩)
theorem d11_0 : decode jdk_42_method_54_code 0 = .ok (.aload_n 0, 1) := by decide +kernel
theorem d11_1 : decode jdk_42_method_54_code 1 = .ok (.getfield 9, 3) := by decide +kernel
theorem d11_4 : decode jdk_42_method_54_code 4 = .ok (.arraylength, 1) := by decide +kernel
theorem d11_5 : decode jdk_42_method_54_code 5 = .ok (.aload_n 0, 1) := by decide +kernel
theorem d11_6 : decode jdk_42_method_54_code 6 = .ok (.invokevirtual 335, 3) := by decide +kernel
theorem d11_9 : decode jdk_42_method_54_code 9 = .ok (.ishr, 1) := by decide +kernel
theorem d11_10 : decode jdk_42_method_54_code 10 = .ok (.ireturn, 1) := by decide +kernel
theorem own_pn_11 : plainFor (⟨"java/lang/String", "length", "()I"⟩ : MethodName) = true := plainFor_of_name (show plainName "java/lang/String" = true by first | (simp [plainName, overriddenIn]; done) | decide +kernel)
theorem own_pd__28_29B : parseMethodDescriptor "()B" = some ⟨[], some .byte⟩ := by decide +kernel
theorem own_ef_rm_len_L_1 (m : MethodId) (a1 : Addr) : entryFrame m #[(.ref a1)] 1 = mkF m 0 #[.val (.ref a1)] [] := by first | (simp [entryFrame, mkF, argsToLocals, Value.category]; done) | rfl
set_option maxRecDepth 65536 in
set_option maxHeartbeats 40000000 in
theorem rm_len_L_1 (l : Launch) (Z : State) (a0 : Array Value) (hw : ∀ d ∈ tables_1, d.before a0 Z = true) (a1 t : Addr) (k : ClassId) (vs : List Value) (zC : Int32) (vS : Value) (h0 : Heap) (n0 : Nat) (O0 : Old Z n0 h0) (hS : own_S Z zC vS) (E_a1 : Exa Z h0 a1 "java/lang/String") (F1 : Fld Z h0 a1 "java/lang/String" "value" "[B" (.ref t)) (F2 : Fld Z h0 a1 "java/lang/String" "coder" "B" (.int (0 : Int32))) (V1 : Arv Z h0 t k .byte (1 : Int32) vs (.int (0 : Int32))) :
    own_Met l Z (⟨"java/lang/String", "length", "()I"⟩ : MethodName) jdk_42_method_54_code 1 (some .int) [] ({ frames := 1, cells := 0, slots := 0, locals := 16 } : Room) #[(.ref a1)] h0 (fun v h L => v = some (.int (1 : Int32)) ∧ Fr n0 L ∧ h = h0) := by
  refine own_body own_pn_11 ?_
  intro p e s m below meth c s₁ hx hby hml hown hnm hret hlk X0 hZ e0
  replace hown : s.vm.findClass "java/lang/String" = some m.cls := hown
  have N0 := Fr.nil n0
  have K0 := Keep.refl h0 []
  refine oS (fun _ k => castTop (own_ef_rm_len_L_1 m a1) k) ?_
  show own_go _ _ _ _ _ _ _ (s₁.setTop (mkF m 0 #[.val (.ref a1)] []))
  refine oS (fun _ k => XS.aloadN X0.here hx rfl (hb hby d11_0) rfl rfl k) ?_
  show own_go _ _ _ _ _ _ _ (s₁.setTop (mkF m 1 #[.val (.ref a1)] [(.ref a1)]))
  obtain ⟨T18, X18, e18, st18⟩ := getF X0 hx hZ hown (host := "") (Or.inl (ow hw 24 rfl)) Via.refl e0 F1 (g := (mkF m 1 #[.val (.ref a1)] [(.ref a1)])) rfl rfl (hb hby d11_1)
  refine oS st18 ?_
  show own_go _ _ _ _ _ _ _ (T18.setTop (mkF m 4 #[.val (.ref a1)] [(.ref t)]))
  refine oS (own_len X18 hx hZ e18 V1 (g := (mkF m 4 #[.val (.ref a1)] [(.ref t)])) rfl rfl (hb hby d11_4)) ?_
  show own_go _ _ _ _ _ _ _ (T18.setTop (mkF m 5 #[.val (.ref a1)] [(.int (1 : Int32))]))
  refine oS (fun _ k => XS.aloadN X18.here hx rfl (hb hby d11_5) rfl rfl k) ?_
  show own_go _ _ _ _ _ _ _ (T18.setTop (mkF m 6 #[.val (.ref a1)] [(.ref a1), (.int (1 : Int32))]))
  obtain ⟨v19, T19, L19, X19, hQ19, st19⟩ := own_callV X18 hx hZ (argsL := []) (rest := [(.int (1 : Int32))]) (rm_coder_0 l Z a0 hw a1 zC vS h0 n0 O0 hS F2) hown (ow hw 54 rfl) (ow hw 55 rfl) (notFace_of_selects (args := #[]) (mvT hZ (ow hw 57 rfl))) (ow hw 57 rfl) (ow hw 56 rfl) (ow hw 6 rfl) (ow hw 58 rfl) (by decide) e18 E_a1 (g := (mkF m 6 #[.val (.ref a1)] [(.ref a1), (.int (1 : Int32))])) rfl (by rw [hml]; rfl) (lenOf own_pd__28_29B rfl) rfl (W := 1) (by show 2 * 0 + _ ≤ _; exact Nat.le_of_eq rfl) (hb hby d11_6) (by decide) (by decide) (by decide) (by decide)
  obtain ⟨rfl, Nq19, eq19⟩ := hQ19
  have N19 := Fr.app N0 Nq19
  refine oS st19 ?_
  show own_go _ _ _ _ _ _ _ (T19.setTop (mkF m 9 #[.val (.ref a1)] [(.int (0 : Int32)), (.int (1 : Int32))]))
  refine oS (fun _ k => XS.ishr X19.here hx rfl (hb hby d11_9) rfl k) ?_
  show own_go _ _ _ _ _ _ _ (T19.setTop (mkF m 10 #[.val (.ref a1)] [(.int ((1 : Int32) >>> ((0 : Int32) &&& 31)))]))
  rw [(by decide : ((1 : Int32) >>> ((0 : Int32) &&& 31)) = (1 : Int32))]
  show own_go _ _ _ _ _ _ _ (T19.setTop (mkF m 10 #[.val (.ref a1)] [(.int (1 : Int32))]))
  exact own_retI X19 hx hlk hret (hb hby d11_10) (by decide) (by decide) (⟨rfl, N19, eq19⟩)
theorem own_ef_rm_len_L_2 (m : MethodId) (a1 : Addr) : entryFrame m #[(.ref a1)] 1 = mkF m 0 #[.val (.ref a1)] [] := by first | (simp [entryFrame, mkF, argsToLocals, Value.category]; done) | rfl
set_option maxRecDepth 65536 in
set_option maxHeartbeats 40000000 in
theorem rm_len_L_2 (l : Launch) (Z : State) (a0 : Array Value) (hw : ∀ d ∈ tables_1, d.before a0 Z = true) (a1 t : Addr) (k : ClassId) (vs : List Value) (zC : Int32) (vS : Value) (h0 : Heap) (n0 : Nat) (O0 : Old Z n0 h0) (hS : own_S Z zC vS) (E_a1 : Exa Z h0 a1 "java/lang/String") (F1 : Fld Z h0 a1 "java/lang/String" "value" "[B" (.ref t)) (F2 : Fld Z h0 a1 "java/lang/String" "coder" "B" (.int (0 : Int32))) (V1 : Arv Z h0 t k .byte (2 : Int32) vs (.int (0 : Int32))) :
    own_Met l Z (⟨"java/lang/String", "length", "()I"⟩ : MethodName) jdk_42_method_54_code 1 (some .int) [] ({ frames := 1, cells := 0, slots := 0, locals := 16 } : Room) #[(.ref a1)] h0 (fun v h L => v = some (.int (2 : Int32)) ∧ Fr n0 L ∧ h = h0) := by
  refine own_body own_pn_11 ?_
  intro p e s m below meth c s₁ hx hby hml hown hnm hret hlk X0 hZ e0
  replace hown : s.vm.findClass "java/lang/String" = some m.cls := hown
  have N0 := Fr.nil n0
  have K0 := Keep.refl h0 []
  refine oS (fun _ k => castTop (own_ef_rm_len_L_2 m a1) k) ?_
  show own_go _ _ _ _ _ _ _ (s₁.setTop (mkF m 0 #[.val (.ref a1)] []))
  refine oS (fun _ k => XS.aloadN X0.here hx rfl (hb hby d11_0) rfl rfl k) ?_
  show own_go _ _ _ _ _ _ _ (s₁.setTop (mkF m 1 #[.val (.ref a1)] [(.ref a1)]))
  obtain ⟨T20, X20, e20, st20⟩ := getF X0 hx hZ hown (host := "") (Or.inl (ow hw 24 rfl)) Via.refl e0 F1 (g := (mkF m 1 #[.val (.ref a1)] [(.ref a1)])) rfl rfl (hb hby d11_1)
  refine oS st20 ?_
  show own_go _ _ _ _ _ _ _ (T20.setTop (mkF m 4 #[.val (.ref a1)] [(.ref t)]))
  refine oS (own_len X20 hx hZ e20 V1 (g := (mkF m 4 #[.val (.ref a1)] [(.ref t)])) rfl rfl (hb hby d11_4)) ?_
  show own_go _ _ _ _ _ _ _ (T20.setTop (mkF m 5 #[.val (.ref a1)] [(.int (2 : Int32))]))
  refine oS (fun _ k => XS.aloadN X20.here hx rfl (hb hby d11_5) rfl rfl k) ?_
  show own_go _ _ _ _ _ _ _ (T20.setTop (mkF m 6 #[.val (.ref a1)] [(.ref a1), (.int (2 : Int32))]))
  obtain ⟨v21, T21, L21, X21, hQ21, st21⟩ := own_callV X20 hx hZ (argsL := []) (rest := [(.int (2 : Int32))]) (rm_coder_0 l Z a0 hw a1 zC vS h0 n0 O0 hS F2) hown (ow hw 54 rfl) (ow hw 55 rfl) (notFace_of_selects (args := #[]) (mvT hZ (ow hw 57 rfl))) (ow hw 57 rfl) (ow hw 56 rfl) (ow hw 6 rfl) (ow hw 58 rfl) (by decide) e20 E_a1 (g := (mkF m 6 #[.val (.ref a1)] [(.ref a1), (.int (2 : Int32))])) rfl (by rw [hml]; rfl) (lenOf own_pd__28_29B rfl) rfl (W := 1) (by show 2 * 0 + _ ≤ _; exact Nat.le_of_eq rfl) (hb hby d11_6) (by decide) (by decide) (by decide) (by decide)
  obtain ⟨rfl, Nq21, eq21⟩ := hQ21
  have N21 := Fr.app N0 Nq21
  refine oS st21 ?_
  show own_go _ _ _ _ _ _ _ (T21.setTop (mkF m 9 #[.val (.ref a1)] [(.int (0 : Int32)), (.int (2 : Int32))]))
  refine oS (fun _ k => XS.ishr X21.here hx rfl (hb hby d11_9) rfl k) ?_
  show own_go _ _ _ _ _ _ _ (T21.setTop (mkF m 10 #[.val (.ref a1)] [(.int ((2 : Int32) >>> ((0 : Int32) &&& 31)))]))
  rw [(by decide : ((2 : Int32) >>> ((0 : Int32) &&& 31)) = (2 : Int32))]
  show own_go _ _ _ _ _ _ _ (T21.setTop (mkF m 10 #[.val (.ref a1)] [(.int (2 : Int32))]))
  exact own_retI X21 hx hlk hret (hb hby d11_10) (by decide) (by decide) (⟨rfl, N21, eq21⟩)
theorem own_ef_rm_len_L_3 (m : MethodId) (a1 : Addr) : entryFrame m #[(.ref a1)] 1 = mkF m 0 #[.val (.ref a1)] [] := by first | (simp [entryFrame, mkF, argsToLocals, Value.category]; done) | rfl
set_option maxRecDepth 65536 in
set_option maxHeartbeats 40000000 in
theorem rm_len_L_3 (l : Launch) (Z : State) (a0 : Array Value) (hw : ∀ d ∈ tables_1, d.before a0 Z = true) (a1 t : Addr) (k : ClassId) (vs : List Value) (zC : Int32) (vS : Value) (h0 : Heap) (n0 : Nat) (O0 : Old Z n0 h0) (hS : own_S Z zC vS) (E_a1 : Exa Z h0 a1 "java/lang/String") (F1 : Fld Z h0 a1 "java/lang/String" "value" "[B" (.ref t)) (F2 : Fld Z h0 a1 "java/lang/String" "coder" "B" (.int (0 : Int32))) (V1 : Arv Z h0 t k .byte (3 : Int32) vs (.int (0 : Int32))) :
    own_Met l Z (⟨"java/lang/String", "length", "()I"⟩ : MethodName) jdk_42_method_54_code 1 (some .int) [] ({ frames := 1, cells := 0, slots := 0, locals := 16 } : Room) #[(.ref a1)] h0 (fun v h L => v = some (.int (3 : Int32)) ∧ Fr n0 L ∧ h = h0) := by
  refine own_body own_pn_11 ?_
  intro p e s m below meth c s₁ hx hby hml hown hnm hret hlk X0 hZ e0
  replace hown : s.vm.findClass "java/lang/String" = some m.cls := hown
  have N0 := Fr.nil n0
  have K0 := Keep.refl h0 []
  refine oS (fun _ k => castTop (own_ef_rm_len_L_3 m a1) k) ?_
  show own_go _ _ _ _ _ _ _ (s₁.setTop (mkF m 0 #[.val (.ref a1)] []))
  refine oS (fun _ k => XS.aloadN X0.here hx rfl (hb hby d11_0) rfl rfl k) ?_
  show own_go _ _ _ _ _ _ _ (s₁.setTop (mkF m 1 #[.val (.ref a1)] [(.ref a1)]))
  obtain ⟨T22, X22, e22, st22⟩ := getF X0 hx hZ hown (host := "") (Or.inl (ow hw 24 rfl)) Via.refl e0 F1 (g := (mkF m 1 #[.val (.ref a1)] [(.ref a1)])) rfl rfl (hb hby d11_1)
  refine oS st22 ?_
  show own_go _ _ _ _ _ _ _ (T22.setTop (mkF m 4 #[.val (.ref a1)] [(.ref t)]))
  refine oS (own_len X22 hx hZ e22 V1 (g := (mkF m 4 #[.val (.ref a1)] [(.ref t)])) rfl rfl (hb hby d11_4)) ?_
  show own_go _ _ _ _ _ _ _ (T22.setTop (mkF m 5 #[.val (.ref a1)] [(.int (3 : Int32))]))
  refine oS (fun _ k => XS.aloadN X22.here hx rfl (hb hby d11_5) rfl rfl k) ?_
  show own_go _ _ _ _ _ _ _ (T22.setTop (mkF m 6 #[.val (.ref a1)] [(.ref a1), (.int (3 : Int32))]))
  obtain ⟨v23, T23, L23, X23, hQ23, st23⟩ := own_callV X22 hx hZ (argsL := []) (rest := [(.int (3 : Int32))]) (rm_coder_0 l Z a0 hw a1 zC vS h0 n0 O0 hS F2) hown (ow hw 54 rfl) (ow hw 55 rfl) (notFace_of_selects (args := #[]) (mvT hZ (ow hw 57 rfl))) (ow hw 57 rfl) (ow hw 56 rfl) (ow hw 6 rfl) (ow hw 58 rfl) (by decide) e22 E_a1 (g := (mkF m 6 #[.val (.ref a1)] [(.ref a1), (.int (3 : Int32))])) rfl (by rw [hml]; rfl) (lenOf own_pd__28_29B rfl) rfl (W := 1) (by show 2 * 0 + _ ≤ _; exact Nat.le_of_eq rfl) (hb hby d11_6) (by decide) (by decide) (by decide) (by decide)
  obtain ⟨rfl, Nq23, eq23⟩ := hQ23
  have N23 := Fr.app N0 Nq23
  refine oS st23 ?_
  show own_go _ _ _ _ _ _ _ (T23.setTop (mkF m 9 #[.val (.ref a1)] [(.int (0 : Int32)), (.int (3 : Int32))]))
  refine oS (fun _ k => XS.ishr X23.here hx rfl (hb hby d11_9) rfl k) ?_
  show own_go _ _ _ _ _ _ _ (T23.setTop (mkF m 10 #[.val (.ref a1)] [(.int ((3 : Int32) >>> ((0 : Int32) &&& 31)))]))
  rw [(by decide : ((3 : Int32) >>> ((0 : Int32) &&& 31)) = (3 : Int32))]
  show own_go _ _ _ _ _ _ _ (T23.setTop (mkF m 10 #[.val (.ref a1)] [(.int (3 : Int32))]))
  exact own_retI X23 hx hlk hret (hb hby d11_10) (by decide) (by decide) (⟨rfl, N23, eq23⟩)
theorem own_ef_rm_len_W_1 (m : MethodId) (a1 : Addr) : entryFrame m #[(.ref a1)] 1 = mkF m 0 #[.val (.ref a1)] [] := by first | (simp [entryFrame, mkF, argsToLocals, Value.category]; done) | rfl
set_option maxRecDepth 65536 in
set_option maxHeartbeats 40000000 in
theorem rm_len_W_1 (l : Launch) (Z : State) (a0 : Array Value) (hw : ∀ d ∈ tables_1, d.before a0 Z = true) (a1 t : Addr) (k : ClassId) (vs : List Value) (zC : Int32) (vS : Value) (h0 : Heap) (n0 : Nat) (O0 : Old Z n0 h0) (hS : own_S Z zC vS) (E_a1 : Exa Z h0 a1 "java/lang/String") (F1 : Fld Z h0 a1 "java/lang/String" "value" "[B" (.ref t)) (F2 : Fld Z h0 a1 "java/lang/String" "coder" "B" (.int (1 : Int32))) (V1 : Arv Z h0 t k .byte (2 : Int32) vs (.int (0 : Int32))) :
    own_Met l Z (⟨"java/lang/String", "length", "()I"⟩ : MethodName) jdk_42_method_54_code 1 (some .int) [] ({ frames := 1, cells := 0, slots := 0, locals := 16 } : Room) #[(.ref a1)] h0 (fun v h L => v = some (.int (1 : Int32)) ∧ Fr n0 L ∧ h = h0) := by
  refine own_body own_pn_11 ?_
  intro p e s m below meth c s₁ hx hby hml hown hnm hret hlk X0 hZ e0
  replace hown : s.vm.findClass "java/lang/String" = some m.cls := hown
  have N0 := Fr.nil n0
  have K0 := Keep.refl h0 []
  refine oS (fun _ k => castTop (own_ef_rm_len_W_1 m a1) k) ?_
  show own_go _ _ _ _ _ _ _ (s₁.setTop (mkF m 0 #[.val (.ref a1)] []))
  refine oS (fun _ k => XS.aloadN X0.here hx rfl (hb hby d11_0) rfl rfl k) ?_
  show own_go _ _ _ _ _ _ _ (s₁.setTop (mkF m 1 #[.val (.ref a1)] [(.ref a1)]))
  obtain ⟨T24, X24, e24, st24⟩ := getF X0 hx hZ hown (host := "") (Or.inl (ow hw 24 rfl)) Via.refl e0 F1 (g := (mkF m 1 #[.val (.ref a1)] [(.ref a1)])) rfl rfl (hb hby d11_1)
  refine oS st24 ?_
  show own_go _ _ _ _ _ _ _ (T24.setTop (mkF m 4 #[.val (.ref a1)] [(.ref t)]))
  refine oS (own_len X24 hx hZ e24 V1 (g := (mkF m 4 #[.val (.ref a1)] [(.ref t)])) rfl rfl (hb hby d11_4)) ?_
  show own_go _ _ _ _ _ _ _ (T24.setTop (mkF m 5 #[.val (.ref a1)] [(.int (2 : Int32))]))
  refine oS (fun _ k => XS.aloadN X24.here hx rfl (hb hby d11_5) rfl rfl k) ?_
  show own_go _ _ _ _ _ _ _ (T24.setTop (mkF m 6 #[.val (.ref a1)] [(.ref a1), (.int (2 : Int32))]))
  obtain ⟨v25, T25, L25, X25, hQ25, st25⟩ := own_callV X24 hx hZ (argsL := []) (rest := [(.int (2 : Int32))]) (rm_coder_1 l Z a0 hw a1 zC vS h0 n0 O0 hS F2) hown (ow hw 54 rfl) (ow hw 55 rfl) (notFace_of_selects (args := #[]) (mvT hZ (ow hw 57 rfl))) (ow hw 57 rfl) (ow hw 56 rfl) (ow hw 6 rfl) (ow hw 58 rfl) (by decide) e24 E_a1 (g := (mkF m 6 #[.val (.ref a1)] [(.ref a1), (.int (2 : Int32))])) rfl (by rw [hml]; rfl) (lenOf own_pd__28_29B rfl) rfl (W := 1) (by show 2 * 0 + _ ≤ _; exact Nat.le_of_eq rfl) (hb hby d11_6) (by decide) (by decide) (by decide) (by decide)
  obtain ⟨rfl, Nq25, eq25⟩ := hQ25
  have N25 := Fr.app N0 Nq25
  refine oS st25 ?_
  show own_go _ _ _ _ _ _ _ (T25.setTop (mkF m 9 #[.val (.ref a1)] [(.int (1 : Int32)), (.int (2 : Int32))]))
  refine oS (fun _ k => XS.ishr X25.here hx rfl (hb hby d11_9) rfl k) ?_
  show own_go _ _ _ _ _ _ _ (T25.setTop (mkF m 10 #[.val (.ref a1)] [(.int ((2 : Int32) >>> ((1 : Int32) &&& 31)))]))
  rw [(by decide : ((2 : Int32) >>> ((1 : Int32) &&& 31)) = (1 : Int32))]
  show own_go _ _ _ _ _ _ _ (T25.setTop (mkF m 10 #[.val (.ref a1)] [(.int (1 : Int32))]))
  exact own_retI X25 hx hlk hret (hb hby d11_10) (by decide) (by decide) (⟨rfl, N25, eq25⟩)
theorem own_ef_rm_len_W_2 (m : MethodId) (a1 : Addr) : entryFrame m #[(.ref a1)] 1 = mkF m 0 #[.val (.ref a1)] [] := by first | (simp [entryFrame, mkF, argsToLocals, Value.category]; done) | rfl
set_option maxRecDepth 65536 in
set_option maxHeartbeats 40000000 in
theorem rm_len_W_2 (l : Launch) (Z : State) (a0 : Array Value) (hw : ∀ d ∈ tables_1, d.before a0 Z = true) (a1 t : Addr) (k : ClassId) (vs : List Value) (zC : Int32) (vS : Value) (h0 : Heap) (n0 : Nat) (O0 : Old Z n0 h0) (hS : own_S Z zC vS) (E_a1 : Exa Z h0 a1 "java/lang/String") (F1 : Fld Z h0 a1 "java/lang/String" "value" "[B" (.ref t)) (F2 : Fld Z h0 a1 "java/lang/String" "coder" "B" (.int (1 : Int32))) (V1 : Arv Z h0 t k .byte (4 : Int32) vs (.int (0 : Int32))) :
    own_Met l Z (⟨"java/lang/String", "length", "()I"⟩ : MethodName) jdk_42_method_54_code 1 (some .int) [] ({ frames := 1, cells := 0, slots := 0, locals := 16 } : Room) #[(.ref a1)] h0 (fun v h L => v = some (.int (2 : Int32)) ∧ Fr n0 L ∧ h = h0) := by
  refine own_body own_pn_11 ?_
  intro p e s m below meth c s₁ hx hby hml hown hnm hret hlk X0 hZ e0
  replace hown : s.vm.findClass "java/lang/String" = some m.cls := hown
  have N0 := Fr.nil n0
  have K0 := Keep.refl h0 []
  refine oS (fun _ k => castTop (own_ef_rm_len_W_2 m a1) k) ?_
  show own_go _ _ _ _ _ _ _ (s₁.setTop (mkF m 0 #[.val (.ref a1)] []))
  refine oS (fun _ k => XS.aloadN X0.here hx rfl (hb hby d11_0) rfl rfl k) ?_
  show own_go _ _ _ _ _ _ _ (s₁.setTop (mkF m 1 #[.val (.ref a1)] [(.ref a1)]))
  obtain ⟨T26, X26, e26, st26⟩ := getF X0 hx hZ hown (host := "") (Or.inl (ow hw 24 rfl)) Via.refl e0 F1 (g := (mkF m 1 #[.val (.ref a1)] [(.ref a1)])) rfl rfl (hb hby d11_1)
  refine oS st26 ?_
  show own_go _ _ _ _ _ _ _ (T26.setTop (mkF m 4 #[.val (.ref a1)] [(.ref t)]))
  refine oS (own_len X26 hx hZ e26 V1 (g := (mkF m 4 #[.val (.ref a1)] [(.ref t)])) rfl rfl (hb hby d11_4)) ?_
  show own_go _ _ _ _ _ _ _ (T26.setTop (mkF m 5 #[.val (.ref a1)] [(.int (4 : Int32))]))
  refine oS (fun _ k => XS.aloadN X26.here hx rfl (hb hby d11_5) rfl rfl k) ?_
  show own_go _ _ _ _ _ _ _ (T26.setTop (mkF m 6 #[.val (.ref a1)] [(.ref a1), (.int (4 : Int32))]))
  obtain ⟨v27, T27, L27, X27, hQ27, st27⟩ := own_callV X26 hx hZ (argsL := []) (rest := [(.int (4 : Int32))]) (rm_coder_1 l Z a0 hw a1 zC vS h0 n0 O0 hS F2) hown (ow hw 54 rfl) (ow hw 55 rfl) (notFace_of_selects (args := #[]) (mvT hZ (ow hw 57 rfl))) (ow hw 57 rfl) (ow hw 56 rfl) (ow hw 6 rfl) (ow hw 58 rfl) (by decide) e26 E_a1 (g := (mkF m 6 #[.val (.ref a1)] [(.ref a1), (.int (4 : Int32))])) rfl (by rw [hml]; rfl) (lenOf own_pd__28_29B rfl) rfl (W := 1) (by show 2 * 0 + _ ≤ _; exact Nat.le_of_eq rfl) (hb hby d11_6) (by decide) (by decide) (by decide) (by decide)
  obtain ⟨rfl, Nq27, eq27⟩ := hQ27
  have N27 := Fr.app N0 Nq27
  refine oS st27 ?_
  show own_go _ _ _ _ _ _ _ (T27.setTop (mkF m 9 #[.val (.ref a1)] [(.int (1 : Int32)), (.int (4 : Int32))]))
  refine oS (fun _ k => XS.ishr X27.here hx rfl (hb hby d11_9) rfl k) ?_
  show own_go _ _ _ _ _ _ _ (T27.setTop (mkF m 10 #[.val (.ref a1)] [(.int ((4 : Int32) >>> ((1 : Int32) &&& 31)))]))
  rw [(by decide : ((4 : Int32) >>> ((1 : Int32) &&& 31)) = (2 : Int32))]
  show own_go _ _ _ _ _ _ _ (T27.setTop (mkF m 10 #[.val (.ref a1)] [(.int (2 : Int32))]))
  exact own_retI X27 hx hlk hret (hb hby d11_10) (by decide) (by decide) (⟨rfl, N27, eq27⟩)
theorem own_ef_rm_len_W_3 (m : MethodId) (a1 : Addr) : entryFrame m #[(.ref a1)] 1 = mkF m 0 #[.val (.ref a1)] [] := by first | (simp [entryFrame, mkF, argsToLocals, Value.category]; done) | rfl
set_option maxRecDepth 65536 in
set_option maxHeartbeats 40000000 in
theorem rm_len_W_3 (l : Launch) (Z : State) (a0 : Array Value) (hw : ∀ d ∈ tables_1, d.before a0 Z = true) (a1 t : Addr) (k : ClassId) (vs : List Value) (zC : Int32) (vS : Value) (h0 : Heap) (n0 : Nat) (O0 : Old Z n0 h0) (hS : own_S Z zC vS) (E_a1 : Exa Z h0 a1 "java/lang/String") (F1 : Fld Z h0 a1 "java/lang/String" "value" "[B" (.ref t)) (F2 : Fld Z h0 a1 "java/lang/String" "coder" "B" (.int (1 : Int32))) (V1 : Arv Z h0 t k .byte (6 : Int32) vs (.int (0 : Int32))) :
    own_Met l Z (⟨"java/lang/String", "length", "()I"⟩ : MethodName) jdk_42_method_54_code 1 (some .int) [] ({ frames := 1, cells := 0, slots := 0, locals := 16 } : Room) #[(.ref a1)] h0 (fun v h L => v = some (.int (3 : Int32)) ∧ Fr n0 L ∧ h = h0) := by
  refine own_body own_pn_11 ?_
  intro p e s m below meth c s₁ hx hby hml hown hnm hret hlk X0 hZ e0
  replace hown : s.vm.findClass "java/lang/String" = some m.cls := hown
  have N0 := Fr.nil n0
  have K0 := Keep.refl h0 []
  refine oS (fun _ k => castTop (own_ef_rm_len_W_3 m a1) k) ?_
  show own_go _ _ _ _ _ _ _ (s₁.setTop (mkF m 0 #[.val (.ref a1)] []))
  refine oS (fun _ k => XS.aloadN X0.here hx rfl (hb hby d11_0) rfl rfl k) ?_
  show own_go _ _ _ _ _ _ _ (s₁.setTop (mkF m 1 #[.val (.ref a1)] [(.ref a1)]))
  obtain ⟨T28, X28, e28, st28⟩ := getF X0 hx hZ hown (host := "") (Or.inl (ow hw 24 rfl)) Via.refl e0 F1 (g := (mkF m 1 #[.val (.ref a1)] [(.ref a1)])) rfl rfl (hb hby d11_1)
  refine oS st28 ?_
  show own_go _ _ _ _ _ _ _ (T28.setTop (mkF m 4 #[.val (.ref a1)] [(.ref t)]))
  refine oS (own_len X28 hx hZ e28 V1 (g := (mkF m 4 #[.val (.ref a1)] [(.ref t)])) rfl rfl (hb hby d11_4)) ?_
  show own_go _ _ _ _ _ _ _ (T28.setTop (mkF m 5 #[.val (.ref a1)] [(.int (6 : Int32))]))
  refine oS (fun _ k => XS.aloadN X28.here hx rfl (hb hby d11_5) rfl rfl k) ?_
  show own_go _ _ _ _ _ _ _ (T28.setTop (mkF m 6 #[.val (.ref a1)] [(.ref a1), (.int (6 : Int32))]))
  obtain ⟨v29, T29, L29, X29, hQ29, st29⟩ := own_callV X28 hx hZ (argsL := []) (rest := [(.int (6 : Int32))]) (rm_coder_1 l Z a0 hw a1 zC vS h0 n0 O0 hS F2) hown (ow hw 54 rfl) (ow hw 55 rfl) (notFace_of_selects (args := #[]) (mvT hZ (ow hw 57 rfl))) (ow hw 57 rfl) (ow hw 56 rfl) (ow hw 6 rfl) (ow hw 58 rfl) (by decide) e28 E_a1 (g := (mkF m 6 #[.val (.ref a1)] [(.ref a1), (.int (6 : Int32))])) rfl (by rw [hml]; rfl) (lenOf own_pd__28_29B rfl) rfl (W := 1) (by show 2 * 0 + _ ≤ _; exact Nat.le_of_eq rfl) (hb hby d11_6) (by decide) (by decide) (by decide) (by decide)
  obtain ⟨rfl, Nq29, eq29⟩ := hQ29
  have N29 := Fr.app N0 Nq29
  refine oS st29 ?_
  show own_go _ _ _ _ _ _ _ (T29.setTop (mkF m 9 #[.val (.ref a1)] [(.int (1 : Int32)), (.int (6 : Int32))]))
  refine oS (fun _ k => XS.ishr X29.here hx rfl (hb hby d11_9) rfl k) ?_
  show own_go _ _ _ _ _ _ _ (T29.setTop (mkF m 10 #[.val (.ref a1)] [(.int ((6 : Int32) >>> ((1 : Int32) &&& 31)))]))
  rw [(by decide : ((6 : Int32) >>> ((1 : Int32) &&& 31)) = (3 : Int32))]
  show own_go _ _ _ _ _ _ _ (T29.setTop (mkF m 10 #[.val (.ref a1)] [(.int (3 : Int32))]))
  exact own_retI X29 hx hlk hret (hb hby d11_10) (by decide) (by decide) (⟨rfl, N29, eq29⟩)
theorem d17_0 : decode jdk_41_method_11_code 0 = .ok (.iload_n 0, 1) := by decide +kernel
theorem d17_1 : decode jdk_41_method_11_code 1 = .ok (.ifCond .lt 8, 3) := by decide +kernel
theorem d17_4 : decode jdk_41_method_11_code 4 = .ok (.iload_n 0, 1) := by decide +kernel
theorem d17_5 : decode jdk_41_method_11_code 5 = .ok (.iload_n 1, 1) := by decide +kernel
theorem d17_6 : decode jdk_41_method_11_code 6 = .ok (.if_icmp .lt 10, 3) := by decide +kernel
theorem d17_16 : decode jdk_41_method_11_code 16 = .ok (.iload_n 0, 1) := by decide +kernel
theorem d17_17 : decode jdk_41_method_11_code 17 = .ok (.ireturn, 1) := by decide +kernel
theorem own_pn_17 : plainFor (⟨"jdk/internal/util/Preconditions", "checkIndex", "(IILjava/util/function/BiFunction;)I"⟩ : MethodName) = true := plainFor_of_name (show plainName "jdk/internal/util/Preconditions" = true by first | (simp [plainName, overriddenIn]; done) | decide +kernel)
theorem own_ef_rm_pciN (m : MethodId) (p1 : Int32) (p2 : Int32) : entryFrame m #[(.int p1), (.int p2), .null] 3 = mkF m 0 #[.val (.int p1), .val (.int p2), .val .null] [] := by first | (simp [entryFrame, mkF, argsToLocals, Value.category]; done) | rfl
set_option maxRecDepth 65536 in
set_option maxHeartbeats 40000000 in
theorem rm_pciN (l : Launch) (Z : State) (a0 : Array Value) (hw : ∀ d ∈ tables_1, d.before a0 Z = true) (p1 p2 : Int32) (h0 : Heap) (n0 : Nat) (O0 : Old Z n0 h0) (h1 : ¬ p1 < 0) (h2 : p1 < p2) :
    own_Met l Z (⟨"jdk/internal/util/Preconditions", "checkIndex", "(IILjava/util/function/BiFunction;)I"⟩ : MethodName) jdk_41_method_11_code 3 (some .int) [] ({ frames := 0, cells := 0, slots := 0, locals := 0 } : Room) #[(.int p1), (.int p2), .null] h0 (fun v h L => v = some (.int p1) ∧ Fr n0 L ∧ h = h0) := by
  refine own_body own_pn_17 ?_
  intro p e s m below meth c s₁ hx hby hml hown hnm hret hlk X0 hZ e0
  replace hown : s.vm.findClass "jdk/internal/util/Preconditions" = some m.cls := hown
  have N0 := Fr.nil n0
  have K0 := Keep.refl h0 []
  refine oS (fun _ k => castTop (own_ef_rm_pciN m p1 p2) k) ?_
  show own_go _ _ _ _ _ _ _ (s₁.setTop (mkF m 0 #[.val (.int p1), .val (.int p2), .val .null] []))
  refine oS (fun _ k => XS.iloadN X0.here hx rfl (hb hby d17_0) rfl k) ?_
  show own_go _ _ _ _ _ _ _ (s₁.setTop (mkF m 1 #[.val (.int p1), .val (.int p2), .val .null] [(.int p1)]))
  refine oS (fun _ k => XS.ifNo X0.here hx rfl (hb hby d17_1) rfl (XT.i0_lt_f h1) k) ?_
  refine oS (fun _ k => XS.iloadN X0.here hx rfl (hb hby d17_4) rfl k) ?_
  refine oS (fun _ k => XS.iloadN X0.here hx rfl (hb hby d17_5) rfl k) ?_
  show own_go _ _ _ _ _ _ _ (s₁.setTop (mkF m 6 #[.val (.int p1), .val (.int p2), .val .null] [(.int p2), (.int p1)]))
  refine oS (fun _ k => XS.icmpYes X0.here hx rfl (pc0 := 6) (pc' := 16) rfl (hb hby d17_6) rfl (XT.ii_lt_t h2) (by decide) (by decide) k) ?_
  refine oS (fun _ k => XS.iloadN X0.here hx rfl (hb hby d17_16) rfl k) ?_
  show own_go _ _ _ _ _ _ _ (s₁.setTop (mkF m 17 #[.val (.int p1), .val (.int p2), .val .null] [(.int p1)]))
  exact own_retI X0 hx hlk hret (hb hby d17_17) (by decide) (by decide) (⟨rfl, N0, e0⟩)
theorem own_ef_rm_pciR (m : MethodId) (p1 : Int32) (p2 : Int32) (a3 : Addr) : entryFrame m #[(.int p1), (.int p2), (.ref a3)] 3 = mkF m 0 #[.val (.int p1), .val (.int p2), .val (.ref a3)] [] := by first | (simp [entryFrame, mkF, argsToLocals, Value.category]; done) | rfl
set_option maxRecDepth 65536 in
set_option maxHeartbeats 40000000 in
theorem rm_pciR (l : Launch) (Z : State) (a0 : Array Value) (hw : ∀ d ∈ tables_1, d.before a0 Z = true) (p1 p2 : Int32) (a3 : Addr) (h0 : Heap) (n0 : Nat) (O0 : Old Z n0 h0) (h1 : ¬ p1 < 0) (h2 : p1 < p2) :
    own_Met l Z (⟨"jdk/internal/util/Preconditions", "checkIndex", "(IILjava/util/function/BiFunction;)I"⟩ : MethodName) jdk_41_method_11_code 3 (some .int) [] ({ frames := 0, cells := 0, slots := 0, locals := 0 } : Room) #[(.int p1), (.int p2), (.ref a3)] h0 (fun v h L => v = some (.int p1) ∧ Fr n0 L ∧ h = h0) := by
  refine own_body own_pn_17 ?_
  intro p e s m below meth c s₁ hx hby hml hown hnm hret hlk X0 hZ e0
  replace hown : s.vm.findClass "jdk/internal/util/Preconditions" = some m.cls := hown
  have N0 := Fr.nil n0
  have K0 := Keep.refl h0 []
  refine oS (fun _ k => castTop (own_ef_rm_pciR m p1 p2 a3) k) ?_
  show own_go _ _ _ _ _ _ _ (s₁.setTop (mkF m 0 #[.val (.int p1), .val (.int p2), .val (.ref a3)] []))
  refine oS (fun _ k => XS.iloadN X0.here hx rfl (hb hby d17_0) rfl k) ?_
  show own_go _ _ _ _ _ _ _ (s₁.setTop (mkF m 1 #[.val (.int p1), .val (.int p2), .val (.ref a3)] [(.int p1)]))
  refine oS (fun _ k => XS.ifNo X0.here hx rfl (hb hby d17_1) rfl (XT.i0_lt_f h1) k) ?_
  refine oS (fun _ k => XS.iloadN X0.here hx rfl (hb hby d17_4) rfl k) ?_
  refine oS (fun _ k => XS.iloadN X0.here hx rfl (hb hby d17_5) rfl k) ?_
  show own_go _ _ _ _ _ _ _ (s₁.setTop (mkF m 6 #[.val (.int p1), .val (.int p2), .val (.ref a3)] [(.int p2), (.int p1)]))
  refine oS (fun _ k => XS.icmpYes X0.here hx rfl (pc0 := 6) (pc' := 16) rfl (hb hby d17_6) rfl (XT.ii_lt_t h2) (by decide) (by decide) k) ?_
  refine oS (fun _ k => XS.iloadN X0.here hx rfl (hb hby d17_16) rfl k) ?_
  show own_go _ _ _ _ _ _ _ (s₁.setTop (mkF m 17 #[.val (.int p1), .val (.int p2), .val (.ref a3)] [(.int p1)]))
  exact own_retI X0 hx hlk hret (hb hby d17_17) (by decide) (by decide) (⟨rfl, N0, e0⟩)
theorem d16_0 : decode jdk_42_method_155_code 0 = .ok (.iload_n 0, 1) := by decide +kernel
theorem d16_1 : decode jdk_42_method_155_code 1 = .ok (.iload_n 1, 1) := by decide +kernel
theorem d16_2 : decode jdk_42_method_155_code 2 = .ok (.getstatic 1053, 3) := by decide +kernel
theorem d16_5 : decode jdk_42_method_155_code 5 = .ok (.invokestatic 1059, 3) := by decide +kernel
theorem d16_8 : decode jdk_42_method_155_code 8 = .ok (.pop, 1) := by decide +kernel
theorem d16_9 : decode jdk_42_method_155_code 9 = .ok (.return_, 1) := by decide +kernel
theorem own_pn_16 : plainFor (⟨"java/lang/String", "checkIndex", "(II)V"⟩ : MethodName) = true := plainFor_of_name (show plainName "java/lang/String" = true by first | (simp [plainName, overriddenIn]; done) | decide +kernel)
theorem own_pd__28IILjava_2futil_2ffunction_2fBiFunction_3b_29I : parseMethodDescriptor "(IILjava/util/function/BiFunction;)I" = some ⟨[.int, .int, (.object "java/util/function/BiFunction")], some .int⟩ := by decide +kernel
theorem own_ef_rm_cki (m : MethodId) (p1 : Int32) (p2 : Int32) : entryFrame m #[(.int p1), (.int p2)] 2 = mkF m 0 #[.val (.int p1), .val (.int p2)] [] := by first | (simp [entryFrame, mkF, argsToLocals, Value.category]; done) | rfl
set_option maxRecDepth 65536 in
set_option maxHeartbeats 40000000 in
theorem rm_cki (l : Launch) (Z : State) (a0 : Array Value) (hw : ∀ d ∈ tables_1, d.before a0 Z = true) (p1 p2 : Int32) (zC : Int32) (vS : Value) (h0 : Heap) (n0 : Nat) (O0 : Old Z n0 h0) (hS : own_S Z zC vS) (h1 : ¬ p1 < 0) (h2 : p1 < p2) :
    own_Met l Z (⟨"java/lang/String", "checkIndex", "(II)V"⟩ : MethodName) jdk_42_method_155_code 2 none [] ({ frames := 1, cells := 0, slots := 0, locals := 16 } : Room) #[(.int p1), (.int p2)] h0 (fun v h L => v = none ∧ Fr n0 L ∧ h = h0) := by
  refine own_body own_pn_16 ?_
  intro p e s m below meth c s₁ hx hby hml hown hnm hret hlk X0 hZ e0
  replace hown : s.vm.findClass "java/lang/String" = some m.cls := hown
  have N0 := Fr.nil n0
  have K0 := Keep.refl h0 []
  refine oS (fun _ k => castTop (own_ef_rm_cki m p1 p2) k) ?_
  show own_go _ _ _ _ _ _ _ (s₁.setTop (mkF m 0 #[.val (.int p1), .val (.int p2)] []))
  refine oS (fun _ k => XS.iloadN X0.here hx rfl (hb hby d16_0) rfl k) ?_
  refine oS (fun _ k => XS.iloadN X0.here hx rfl (hb hby d16_1) rfl k) ?_
  show own_go _ _ _ _ _ _ _ (s₁.setTop (mkF m 2 #[.val (.int p1), .val (.int p2)] [(.int p2), (.int p1)]))
  obtain ⟨T30, X30, e30, st30⟩ := getS2 X0 hx hZ hown (host := "") (Or.inl (ow hw 76 rfl)) Via.refl e0 (hS.2.2.1.ext O0.2) (g := (mkF m 2 #[.val (.int p1), .val (.int p2)] [(.int p2), (.int p1)])) rfl (hb hby d16_2)
  refine oS st30 ?_
  show own_go _ _ _ _ _ _ _ (T30.setTop (mkF m 5 #[.val (.int p1), .val (.int p2)] [vS, (.int p2), (.int p1)]))
  rcases own_rc hS.2.2.2.1 with hv | ⟨rS, hv⟩
  · skip
    rw [hv]
    show own_go _ _ _ _ _ _ _ (T30.setTop (mkF m 5 #[.val (.int p1), .val (.int p2)] [.null, (.int p2), (.int p1)]))
    obtain ⟨v31, T31, L31, X31, hQ31, st31⟩ := own_callS X30 hx hZ (argsL := [(.int p1), (.int p2), .null]) (rest := []) (rm_pciN l Z a0 hw p1 p2 h0 n0 O0 h1 h2) hown (ow hw 78 rfl) (ow hw 79 rfl) (ow hw 77 rfl) (ow hw 80 rfl) (by decide) e30 (g := (mkF m 5 #[.val (.int p1), .val (.int p2)] [.null, (.int p2), (.int p1)])) rfl (by rw [hml]; rfl) (lenOf own_pd__28IILjava_2futil_2ffunction_2fBiFunction_3b_29I rfl) rfl (W := 0) (by show 2 * 0 + _ ≤ _; exact Nat.le_of_eq rfl) (hb hby d16_5) (by decide) (by decide) (by decide) (by decide)
    obtain ⟨rfl, Nq31, eq31⟩ := hQ31
    have N31 := Fr.app N0 Nq31
    refine oS st31 ?_
    show own_go _ _ _ _ _ _ _ (T31.setTop (mkF m 8 #[.val (.int p1), .val (.int p2)] [(.int p1)]))
    refine oS (fun _ k => XS.pop X31.here hx rfl (hb hby d16_8) rfl rfl k) ?_
    show own_go _ _ _ _ _ _ _ (T31.setTop (mkF m 9 #[.val (.int p1), .val (.int p2)] []))
    exact own_ret0 X31 hx hlk hret (hb hby d16_9) (by decide) (by decide) (⟨rfl, N31, eq31⟩)
  · skip
    rw [hv]
    show own_go _ _ _ _ _ _ _ (T30.setTop (mkF m 5 #[.val (.int p1), .val (.int p2)] [(.ref rS), (.int p2), (.int p1)]))
    obtain ⟨v32, T32, L32, X32, hQ32, st32⟩ := own_callS X30 hx hZ (argsL := [(.int p1), (.int p2), (.ref rS)]) (rest := []) (rm_pciR l Z a0 hw p1 p2 rS h0 n0 O0 h1 h2) hown (ow hw 78 rfl) (ow hw 79 rfl) (ow hw 77 rfl) (ow hw 80 rfl) (by decide) e30 (g := (mkF m 5 #[.val (.int p1), .val (.int p2)] [(.ref rS), (.int p2), (.int p1)])) rfl (by rw [hml]; rfl) (lenOf own_pd__28IILjava_2futil_2ffunction_2fBiFunction_3b_29I rfl) rfl (W := 0) (by show 2 * 0 + _ ≤ _; exact Nat.le_of_eq rfl) (hb hby d16_5) (by decide) (by decide) (by decide) (by decide)
    obtain ⟨rfl, Nq32, eq32⟩ := hQ32
    have N32 := Fr.app N0 Nq32
    refine oS st32 ?_
    show own_go _ _ _ _ _ _ _ (T32.setTop (mkF m 8 #[.val (.int p1), .val (.int p2)] [(.int p1)]))
    refine oS (fun _ k => XS.pop X32.here hx rfl (hb hby d16_8) rfl rfl k) ?_
    show own_go _ _ _ _ _ _ _ (T32.setTop (mkF m 9 #[.val (.int p1), .val (.int p2)] []))
    exact own_ret0 X32 hx hlk hret (hb hby d16_9) (by decide) (by decide) (⟨rfl, N32, eq32⟩)
theorem d25_0 : decode jdk_52_method_6_code 0 = .ok (.aload_n 0, 1) := by decide +kernel
theorem d25_1 : decode jdk_52_method_6_code 1 = .ok (.arraylength, 1) := by decide +kernel
theorem d25_2 : decode jdk_52_method_6_code 2 = .ok (.iconst 1, 1) := by decide +kernel
theorem d25_3 : decode jdk_52_method_6_code 3 = .ok (.ishr, 1) := by decide +kernel
theorem d25_4 : decode jdk_52_method_6_code 4 = .ok (.ireturn, 1) := by decide +kernel
theorem own_pn_25 : plainFor (⟨"java/lang/StringUTF16", "length", "([B)I"⟩ : MethodName) = true := plainFor_of_name (show plainName "java/lang/StringUTF16" = true by first | (simp [plainName, overriddenIn]; done) | decide +kernel)
theorem own_ef_rm_ulen_1 (m : MethodId) (t : Addr) : entryFrame m #[(.ref t)] 1 = mkF m 0 #[.val (.ref t)] [] := by first | (simp [entryFrame, mkF, argsToLocals, Value.category]; done) | rfl
set_option maxRecDepth 65536 in
set_option maxHeartbeats 40000000 in
theorem rm_ulen_1 (l : Launch) (Z : State) (a0 : Array Value) (hw : ∀ d ∈ tables_1, d.before a0 Z = true) (t : Addr) (k : ClassId) (vs : List Value) (h0 : Heap) (n0 : Nat) (O0 : Old Z n0 h0) (V1 : Arv Z h0 t k .byte (2 : Int32) vs (.int (0 : Int32))) :
    own_Met l Z (⟨"java/lang/StringUTF16", "length", "([B)I"⟩ : MethodName) jdk_52_method_6_code 1 (some .int) [] ({ frames := 0, cells := 0, slots := 0, locals := 0 } : Room) #[(.ref t)] h0 (fun v h L => v = some (.int (1 : Int32)) ∧ Fr n0 L ∧ h = h0) := by
  refine own_body own_pn_25 ?_
  intro p e s m below meth c s₁ hx hby hml hown hnm hret hlk X0 hZ e0
  replace hown : s.vm.findClass "java/lang/StringUTF16" = some m.cls := hown
  have N0 := Fr.nil n0
  have K0 := Keep.refl h0 []
  refine oS (fun _ k => castTop (own_ef_rm_ulen_1 m t) k) ?_
  show own_go _ _ _ _ _ _ _ (s₁.setTop (mkF m 0 #[.val (.ref t)] []))
  refine oS (fun _ k => XS.aloadN X0.here hx rfl (hb hby d25_0) rfl rfl k) ?_
  show own_go _ _ _ _ _ _ _ (s₁.setTop (mkF m 1 #[.val (.ref t)] [(.ref t)]))
  refine oS (own_len X0 hx hZ e0 V1 (g := (mkF m 1 #[.val (.ref t)] [(.ref t)])) rfl rfl (hb hby d25_1)) ?_
  show own_go _ _ _ _ _ _ _ (s₁.setTop (mkF m 2 #[.val (.ref t)] [(.int (2 : Int32))]))
  refine oS (fun _ k => XS.iconst X0.here hx rfl (hb hby d25_2) k) ?_
  refine oS (fun _ k => XS.ishr X0.here hx rfl (hb hby d25_3) rfl k) ?_
  show own_go _ _ _ _ _ _ _ (s₁.setTop (mkF m 4 #[.val (.ref t)] [(.int ((2 : Int32) >>> ((1 : Int32) &&& 31)))]))
  rw [(by decide : ((2 : Int32) >>> ((1 : Int32) &&& 31)) = (1 : Int32))]
  show own_go _ _ _ _ _ _ _ (s₁.setTop (mkF m 4 #[.val (.ref t)] [(.int (1 : Int32))]))
  exact own_retI X0 hx hlk hret (hb hby d25_4) (by decide) (by decide) (⟨rfl, N0, e0⟩)
theorem d15_0 : decode jdk_43_method_2_code 0 = .ok (.iload_n 1, 1) := by decide +kernel
theorem d15_1 : decode jdk_43_method_2_code 1 = .ok (.aload_n 0, 1) := by decide +kernel
theorem d15_2 : decode jdk_43_method_2_code 2 = .ok (.arraylength, 1) := by decide +kernel
theorem d15_3 : decode jdk_43_method_2_code 3 = .ok (.invokestatic 9, 3) := by decide +kernel
theorem d15_6 : decode jdk_43_method_2_code 6 = .ok (.aload_n 0, 1) := by decide +kernel
theorem d15_7 : decode jdk_43_method_2_code 7 = .ok (.iload_n 1, 1) := by decide +kernel
theorem d15_8 : decode jdk_43_method_2_code 8 = .ok (.baload, 1) := by decide +kernel
theorem d15_9 : decode jdk_43_method_2_code 9 = .ok (.sipush 255, 3) := by decide +kernel
theorem d15_12 : decode jdk_43_method_2_code 12 = .ok (.iand, 1) := by decide +kernel
theorem d15_13 : decode jdk_43_method_2_code 13 = .ok (.i2c, 1) := by decide +kernel
theorem d15_14 : decode jdk_43_method_2_code 14 = .ok (.ireturn, 1) := by decide +kernel
theorem own_pn_15 : plainFor (⟨"java/lang/StringLatin1", "charAt", "([BI)C"⟩ : MethodName) = true := plainFor_of_name (show plainName "java/lang/StringLatin1" = true by first | (simp [plainName, overriddenIn]; done) | decide +kernel)
theorem own_pd__28II_29V : parseMethodDescriptor "(II)V" = some ⟨[.int, .int], none⟩ := by decide +kernel
theorem own_ef_rm_lch_1_0 (m : MethodId) (t : Addr) : entryFrame m #[(.ref t), (.int (0 : Int32))] 2 = mkF m 0 #[.val (.ref t), .val (.int (0 : Int32))] [] := by first | (simp [entryFrame, mkF, argsToLocals, Value.category]; done) | rfl
set_option maxRecDepth 65536 in
set_option maxHeartbeats 40000000 in
theorem rm_lch_1_0 (l : Launch) (Z : State) (a0 : Array Value) (hw : ∀ d ∈ tables_1, d.before a0 Z = true) (t : Addr) (k : ClassId) (c0 : Int32) (zC : Int32) (vS : Value) (h0 : Heap) (n0 : Nat) (O0 : Old Z n0 h0) (hS : own_S Z zC vS) (V1 : Arv Z h0 t k .byte (1 : Int32) [(.int (c0.toInt8.toInt32))] (.int (0 : Int32))) (hc0 : own_ch c0) (hl : ¬ (255 : Int32) < c0) :
    own_Met l Z (⟨"java/lang/StringLatin1", "charAt", "([BI)C"⟩ : MethodName) jdk_43_method_2_code 2 (some .char) [] ({ frames := 2, cells := 0, slots := 0, locals := 32 } : Room) #[(.ref t), (.int (0 : Int32))] h0 (fun v h L => v = some (.int c0) ∧ Fr n0 L ∧ h = h0) := by
  refine own_body own_pn_15 ?_
  intro p e s m below meth c s₁ hx hby hml hown hnm hret hlk X0 hZ e0
  replace hown : s.vm.findClass "java/lang/StringLatin1" = some m.cls := hown
  have N0 := Fr.nil n0
  have K0 := Keep.refl h0 []
  refine oS (fun _ k => castTop (own_ef_rm_lch_1_0 m t) k) ?_
  show own_go _ _ _ _ _ _ _ (s₁.setTop (mkF m 0 #[.val (.ref t), .val (.int (0 : Int32))] []))
  refine oS (fun _ k => XS.iloadN X0.here hx rfl (hb hby d15_0) rfl k) ?_
  refine oS (fun _ k => XS.aloadN X0.here hx rfl (hb hby d15_1) rfl rfl k) ?_
  show own_go _ _ _ _ _ _ _ (s₁.setTop (mkF m 2 #[.val (.ref t), .val (.int (0 : Int32))] [(.ref t), (.int (0 : Int32))]))
  refine oS (own_len X0 hx hZ e0 V1 (g := (mkF m 2 #[.val (.ref t), .val (.int (0 : Int32))] [(.ref t), (.int (0 : Int32))])) rfl rfl (hb hby d15_2)) ?_
  show own_go _ _ _ _ _ _ _ (s₁.setTop (mkF m 3 #[.val (.ref t), .val (.int (0 : Int32))] [(.int (1 : Int32)), (.int (0 : Int32))]))
  obtain ⟨v33, T33, L33, X33, hQ33, st33⟩ := own_callS X0 hx hZ (argsL := [(.int (0 : Int32)), (.int (1 : Int32))]) (rest := []) (rm_cki l Z a0 hw (0 : Int32) (1 : Int32) zC vS h0 n0 O0 hS (by decide) (by decide)) hown (ow hw 73 rfl) (ow hw 74 rfl) (ow hw 6 rfl) (ow hw 75 rfl) (by decide) e0 (g := (mkF m 3 #[.val (.ref t), .val (.int (0 : Int32))] [(.int (1 : Int32)), (.int (0 : Int32))])) rfl (by rw [hml]; rfl) (lenOf own_pd__28II_29V rfl) rfl (W := 0) (by show 2 * 0 + _ ≤ _; exact Nat.le_of_eq rfl) (hb hby d15_3) (by decide) (by decide) (by decide) (by decide)
  obtain ⟨rfl, Nq33, eq33⟩ := hQ33
  have N33 := Fr.app N0 Nq33
  refine oS st33 ?_
  show own_go _ _ _ _ _ _ _ (T33.setTop (mkF m 6 #[.val (.ref t), .val (.int (0 : Int32))] []))
  refine oS (fun _ k => XS.aloadN X33.here hx rfl (hb hby d15_6) rfl rfl k) ?_
  refine oS (fun _ k => XS.iloadN X33.here hx rfl (hb hby d15_7) rfl k) ?_
  show own_go _ _ _ _ _ _ _ (T33.setTop (mkF m 8 #[.val (.ref t), .val (.int (0 : Int32))] [(.int (0 : Int32)), (.ref t)]))
  refine oS (own_getB X33 hx hZ eq33 V1 (j := (0 : Int32)) (by decide) (v := (.int (c0.toInt8.toInt32))) rfl (g := (mkF m 8 #[.val (.ref t), .val (.int (0 : Int32))] [(.int (0 : Int32)), (.ref t)])) rfl rfl (hb hby d15_8)) ?_
  show own_go _ _ _ _ _ _ _ (T33.setTop (mkF m 9 #[.val (.ref t), .val (.int (0 : Int32))] [(.int (c0.toInt8.toInt32))]))
  refine oS (fun _ k => XS.sipush X33.here hx rfl (hb hby d15_9) k) ?_
  refine oS (fun _ k => XS.iand X33.here hx rfl (hb hby d15_12) rfl k) ?_
  refine oS (fun _ k => XS.i2c X33.here hx rfl (hb hby d15_13) rfl k) ?_
  show own_go _ _ _ _ _ _ _ (T33.setTop (mkF m 14 #[.val (.ref t), .val (.int (0 : Int32))] [(.int (((c0.toInt8.toInt32) &&& (255 : Int32)).toUInt32.toUInt16.toUInt32.toInt32))]))
  have cq : (((c0.toInt8.toInt32) &&& (255 : Int32)).toUInt32.toUInt16.toUInt32.toInt32) = c0 := StrChars.chr8_lo8 hc0.1 hl
  rw [cq]
  show own_go _ _ _ _ _ _ _ (T33.setTop (mkF m 14 #[.val (.ref t), .val (.int (0 : Int32))] [(.int c0)]))
  exact own_retN X33 hx hlk (t := .char) hret (by simp) (StrChars.narrow_ch hc0.1 hc0.2) (hb hby d15_14) (by decide) (by decide) (⟨rfl, N33, eq33⟩)
theorem d24_0 : decode jdk_52_method_91_code 0 = .ok (.iload_n 0, 1) := by decide +kernel
theorem d24_1 : decode jdk_52_method_91_code 1 = .ok (.aload_n 1, 1) := by decide +kernel
theorem d24_2 : decode jdk_52_method_91_code 2 = .ok (.invokestatic 48, 3) := by decide +kernel
theorem d24_5 : decode jdk_52_method_91_code 5 = .ok (.invokestatic 414, 3) := by decide +kernel
theorem d24_8 : decode jdk_52_method_91_code 8 = .ok (.return_, 1) := by decide +kernel
theorem own_pn_24 : plainFor (⟨"java/lang/StringUTF16", "checkIndex", "(I[B)V"⟩ : MethodName) = true := plainFor_of_name (show plainName "java/lang/StringUTF16" = true by first | (simp [plainName, overriddenIn]; done) | decide +kernel)
theorem own_pd__28_5bB_29I : parseMethodDescriptor "([B)I" = some ⟨[(.array .byte)], some .int⟩ := by decide +kernel
theorem own_ef_rm_uck_1_0 (m : MethodId) (t : Addr) : entryFrame m #[(.int (0 : Int32)), (.ref t)] 2 = mkF m 0 #[.val (.int (0 : Int32)), .val (.ref t)] [] := by first | (simp [entryFrame, mkF, argsToLocals, Value.category]; done) | rfl
set_option maxRecDepth 65536 in
set_option maxHeartbeats 40000000 in
theorem rm_uck_1_0 (l : Launch) (Z : State) (a0 : Array Value) (hw : ∀ d ∈ tables_1, d.before a0 Z = true) (t : Addr) (k : ClassId) (vs : List Value) (zC : Int32) (vS : Value) (h0 : Heap) (n0 : Nat) (O0 : Old Z n0 h0) (hS : own_S Z zC vS) (V1 : Arv Z h0 t k .byte (2 : Int32) vs (.int (0 : Int32))) :
    own_Met l Z (⟨"java/lang/StringUTF16", "checkIndex", "(I[B)V"⟩ : MethodName) jdk_52_method_91_code 2 none [] ({ frames := 2, cells := 0, slots := 0, locals := 32 } : Room) #[(.int (0 : Int32)), (.ref t)] h0 (fun v h L => v = none ∧ Fr n0 L ∧ h = h0) := by
  refine own_body own_pn_24 ?_
  intro p e s m below meth c s₁ hx hby hml hown hnm hret hlk X0 hZ e0
  replace hown : s.vm.findClass "java/lang/StringUTF16" = some m.cls := hown
  have N0 := Fr.nil n0
  have K0 := Keep.refl h0 []
  refine oS (fun _ k => castTop (own_ef_rm_uck_1_0 m t) k) ?_
  show own_go _ _ _ _ _ _ _ (s₁.setTop (mkF m 0 #[.val (.int (0 : Int32)), .val (.ref t)] []))
  refine oS (fun _ k => XS.iloadN X0.here hx rfl (hb hby d24_0) rfl k) ?_
  refine oS (fun _ k => XS.aloadN X0.here hx rfl (hb hby d24_1) rfl rfl k) ?_
  show own_go _ _ _ _ _ _ _ (s₁.setTop (mkF m 2 #[.val (.int (0 : Int32)), .val (.ref t)] [(.ref t), (.int (0 : Int32))]))
  obtain ⟨v34, T34, L34, X34, hQ34, st34⟩ := own_callS X0 hx hZ (argsL := [(.ref t)]) (rest := [(.int (0 : Int32))]) (rm_ulen_1 l Z a0 hw t k vs h0 n0 O0 V1) hown (ow hw 106 rfl) (ow hw 107 rfl) (ow hw 38 rfl) (ow hw 108 rfl) (by decide) e0 (g := (mkF m 2 #[.val (.int (0 : Int32)), .val (.ref t)] [(.ref t), (.int (0 : Int32))])) rfl (by rw [hml]; rfl) (lenOf own_pd__28_5bB_29I rfl) rfl (W := 1) (by show 2 * 0 + _ ≤ _; exact Nat.le_of_eq rfl) (hb hby d24_2) (by decide) (by decide) (by decide) (by decide)
  obtain ⟨rfl, Nq34, eq34⟩ := hQ34
  have N34 := Fr.app N0 Nq34
  refine oS st34 ?_
  show own_go _ _ _ _ _ _ _ (T34.setTop (mkF m 5 #[.val (.int (0 : Int32)), .val (.ref t)] [(.int (1 : Int32)), (.int (0 : Int32))]))
  obtain ⟨v35, T35, L35, X35, hQ35, st35⟩ := own_callS X34 hx hZ (argsL := [(.int (0 : Int32)), (.int (1 : Int32))]) (rest := []) (rm_cki l Z a0 hw (0 : Int32) (1 : Int32) zC vS h0 n0 O0 hS (by decide) (by decide)) hown (ow hw 109 rfl) (ow hw 74 rfl) (ow hw 6 rfl) (ow hw 75 rfl) (by decide) eq34 (g := (mkF m 5 #[.val (.int (0 : Int32)), .val (.ref t)] [(.int (1 : Int32)), (.int (0 : Int32))])) rfl (by rw [hml]; rfl) (lenOf own_pd__28II_29V rfl) rfl (W := 0) (by show 2 * 0 + _ ≤ _; exact Nat.le_of_eq rfl) (hb hby d24_5) (by decide) (by decide) (by decide) (by decide)
  obtain ⟨rfl, Nq35, eq35⟩ := hQ35
  have N35 := Fr.app N34 Nq35
  refine oS st35 ?_
  show own_go _ _ _ _ _ _ _ (T35.setTop (mkF m 8 #[.val (.int (0 : Int32)), .val (.ref t)] []))
  exact own_ret0 X35 hx hlk hret (hb hby d24_8) (by decide) (by decide) (⟨rfl, N35, eq35⟩)
theorem d22_0 : decode jdk_52_method_5_code 0 = .ok (.getstatic 44, 3) := by decide +kernel
theorem d22_3 : decode jdk_52_method_5_code 3 = .ok (.ifCond .ne 25, 3) := by decide +kernel
theorem d22_28 : decode jdk_52_method_5_code 28 = .ok (.iload_n 1, 1) := by decide +kernel
theorem d22_29 : decode jdk_52_method_5_code 29 = .ok (.iconst 1, 1) := by decide +kernel
theorem d22_30 : decode jdk_52_method_5_code 30 = .ok (.ishl, 1) := by decide +kernel
theorem d22_31 : decode jdk_52_method_5_code 31 = .ok (.istore_n 1, 1) := by decide +kernel
theorem d22_32 : decode jdk_52_method_5_code 32 = .ok (.aload_n 0, 1) := by decide +kernel
theorem d22_33 : decode jdk_52_method_5_code 33 = .ok (.iload_n 1, 1) := by decide +kernel
theorem d22_34 : decode jdk_52_method_5_code 34 = .ok (.iinc 1 1, 3) := by decide +kernel
theorem d22_37 : decode jdk_52_method_5_code 37 = .ok (.baload, 1) := by decide +kernel
theorem d22_38 : decode jdk_52_method_5_code 38 = .ok (.sipush 255, 3) := by decide +kernel
theorem d22_41 : decode jdk_52_method_5_code 41 = .ok (.iand, 1) := by decide +kernel
theorem d22_42 : decode jdk_52_method_5_code 42 = .ok (.getstatic 59, 3) := by decide +kernel
theorem d22_45 : decode jdk_52_method_5_code 45 = .ok (.ishl, 1) := by decide +kernel
theorem d22_46 : decode jdk_52_method_5_code 46 = .ok (.aload_n 0, 1) := by decide +kernel
theorem d22_47 : decode jdk_52_method_5_code 47 = .ok (.iload_n 1, 1) := by decide +kernel
theorem d22_48 : decode jdk_52_method_5_code 48 = .ok (.baload, 1) := by decide +kernel
theorem d22_49 : decode jdk_52_method_5_code 49 = .ok (.sipush 255, 3) := by decide +kernel
theorem d22_52 : decode jdk_52_method_5_code 52 = .ok (.iand, 1) := by decide +kernel
theorem d22_53 : decode jdk_52_method_5_code 53 = .ok (.getstatic 63, 3) := by decide +kernel
theorem d22_56 : decode jdk_52_method_5_code 56 = .ok (.ishl, 1) := by decide +kernel
theorem d22_57 : decode jdk_52_method_5_code 57 = .ok (.ior, 1) := by decide +kernel
theorem d22_58 : decode jdk_52_method_5_code 58 = .ok (.i2c, 1) := by decide +kernel
theorem d22_59 : decode jdk_52_method_5_code 59 = .ok (.ireturn, 1) := by decide +kernel
theorem own_pn_22 : plainFor (⟨"java/lang/StringUTF16", "getChar", "([BI)C"⟩ : MethodName) = true := plainFor_of_name (show plainName "java/lang/StringUTF16" = true by first | (simp [plainName, overriddenIn]; done) | decide +kernel)
theorem own_ef_rm_gc_1_0 (m : MethodId) (t : Addr) : entryFrame m #[(.ref t), (.int (0 : Int32))] 2 = mkF m 0 #[.val (.ref t), .val (.int (0 : Int32))] [] := by first | (simp [entryFrame, mkF, argsToLocals, Value.category]; done) | rfl
set_option maxRecDepth 65536 in
set_option maxHeartbeats 40000000 in
theorem rm_gc_1_0 (l : Launch) (Z : State) (a0 : Array Value) (hw : ∀ d ∈ tables_1, d.before a0 Z = true) (t : Addr) (k : ClassId) (c0 : Int32) (zC : Int32) (vS : Value) (h0 : Heap) (n0 : Nat) (O0 : Old Z n0 h0) (hS : own_S Z zC vS) (V1 : Arv Z h0 t k .byte (2 : Int32) [(.int (c0.toInt8.toInt32)), (.int ((c0 >>> ((8 : Int32) &&& 31)).toInt8.toInt32))] (.int (0 : Int32))) (hc0 : own_ch c0) :
    own_Met l Z (⟨"java/lang/StringUTF16", "getChar", "([BI)C"⟩ : MethodName) jdk_52_method_5_code 2 (some .char) [] ({ frames := 0, cells := 0, slots := 0, locals := 0 } : Room) #[(.ref t), (.int (0 : Int32))] h0 (fun v h L => v = some (.int c0) ∧ Fr n0 L ∧ h = h0) := by
  refine own_body own_pn_22 ?_
  intro p e s m below meth c s₁ hx hby hml hown hnm hret hlk X0 hZ e0
  replace hown : s.vm.findClass "java/lang/StringUTF16" = some m.cls := hown
  have N0 := Fr.nil n0
  have K0 := Keep.refl h0 []
  refine oS (fun _ k => castTop (own_ef_rm_gc_1_0 m t) k) ?_
  show own_go _ _ _ _ _ _ _ (s₁.setTop (mkF m 0 #[.val (.ref t), .val (.int (0 : Int32))] []))
  obtain ⟨T36, X36, e36, st36⟩ := getS2 X0 hx hZ hown (host := "") (Or.inl (ow hw 94 rfl)) Via.refl e0 (hS.2.2.2.2.1.ext O0.2) (g := (mkF m 0 #[.val (.ref t), .val (.int (0 : Int32))] [])) rfl (hb hby d22_0)
  refine oS st36 ?_
  show own_go _ _ _ _ _ _ _ (T36.setTop (mkF m 3 #[.val (.ref t), .val (.int (0 : Int32))] [(.int (1 : Int32))]))
  refine oS (fun _ k => XS.ifYes X36.here hx rfl (pc0 := 3) (pc' := 28) rfl (hb hby d22_3) rfl (by decide) (by decide) (by decide) k) ?_
  refine oS (fun _ k => XS.iloadN X36.here hx rfl (hb hby d22_28) rfl k) ?_
  refine oS (fun _ k => XS.iconst X36.here hx rfl (hb hby d22_29) k) ?_
  refine oS (fun _ k => XS.ishl X36.here hx rfl (hb hby d22_30) rfl k) ?_
  show own_go _ _ _ _ _ _ _ (T36.setTop (mkF m 31 #[.val (.ref t), .val (.int (0 : Int32))] [(.int ((0 : Int32) <<< ((1 : Int32) &&& 31)))]))
  rw [(by decide : ((0 : Int32) <<< ((1 : Int32) &&& 31)) = (0 : Int32))]
  show own_go _ _ _ _ _ _ _ (T36.setTop (mkF m 31 #[.val (.ref t), .val (.int (0 : Int32))] [(.int (0 : Int32))]))
  refine oS (fun _ k => XS.istoreN X36.here hx rfl (hb hby d22_31) rfl (l' := #[.val (.ref t), .val (.int (0 : Int32))]) rfl k) ?_
  refine oS (fun _ k => XS.aloadN X36.here hx rfl (hb hby d22_32) rfl rfl k) ?_
  refine oS (fun _ k => XS.iloadN X36.here hx rfl (hb hby d22_33) rfl k) ?_
  refine oS (fun _ k => XS.iinc X36.here hx rfl (hb hby d22_34) rfl (l' := #[.val (.ref t), .val (.int (1 : Int32))]) rfl k) ?_
  show own_go _ _ _ _ _ _ _ (T36.setTop (mkF m 37 #[.val (.ref t), .val (.int (1 : Int32))] [(.int (0 : Int32)), (.ref t)]))
  refine oS (own_getB X36 hx hZ e36 V1 (j := (0 : Int32)) (by decide) (v := (.int (c0.toInt8.toInt32))) rfl (g := (mkF m 37 #[.val (.ref t), .val (.int (1 : Int32))] [(.int (0 : Int32)), (.ref t)])) rfl rfl (hb hby d22_37)) ?_
  show own_go _ _ _ _ _ _ _ (T36.setTop (mkF m 38 #[.val (.ref t), .val (.int (1 : Int32))] [(.int (c0.toInt8.toInt32))]))
  refine oS (fun _ k => XS.sipush X36.here hx rfl (hb hby d22_38) k) ?_
  refine oS (fun _ k => XS.iand X36.here hx rfl (hb hby d22_41) rfl k) ?_
  show own_go _ _ _ _ _ _ _ (T36.setTop (mkF m 42 #[.val (.ref t), .val (.int (1 : Int32))] [(.int ((c0.toInt8.toInt32) &&& (255 : Int32)))]))
  obtain ⟨T37, X37, e37, st37⟩ := getS2 X36 hx hZ hown (host := "") (Or.inl (ow hw 95 rfl)) Via.refl e36 (hS.2.2.2.2.2.1.ext O0.2) (g := (mkF m 42 #[.val (.ref t), .val (.int (1 : Int32))] [(.int ((c0.toInt8.toInt32) &&& (255 : Int32)))])) rfl (hb hby d22_42)
  refine oS st37 ?_
  show own_go _ _ _ _ _ _ _ (T37.setTop (mkF m 45 #[.val (.ref t), .val (.int (1 : Int32))] [(.int (0 : Int32)), (.int ((c0.toInt8.toInt32) &&& (255 : Int32)))]))
  refine oS (fun _ k => XS.ishl X37.here hx rfl (hb hby d22_45) rfl k) ?_
  refine oS (fun _ k => XS.aloadN X37.here hx rfl (hb hby d22_46) rfl rfl k) ?_
  refine oS (fun _ k => XS.iloadN X37.here hx rfl (hb hby d22_47) rfl k) ?_
  show own_go _ _ _ _ _ _ _ (T37.setTop (mkF m 48 #[.val (.ref t), .val (.int (1 : Int32))] [(.int (1 : Int32)), (.ref t), (.int (((c0.toInt8.toInt32) &&& (255 : Int32)) <<< ((0 : Int32) &&& 31)))]))
  refine oS (own_getB X37 hx hZ e37 V1 (j := (1 : Int32)) (by decide) (v := (.int ((c0 >>> ((8 : Int32) &&& 31)).toInt8.toInt32))) rfl (g := (mkF m 48 #[.val (.ref t), .val (.int (1 : Int32))] [(.int (1 : Int32)), (.ref t), (.int (((c0.toInt8.toInt32) &&& (255 : Int32)) <<< ((0 : Int32) &&& 31)))])) rfl rfl (hb hby d22_48)) ?_
  show own_go _ _ _ _ _ _ _ (T37.setTop (mkF m 49 #[.val (.ref t), .val (.int (1 : Int32))] [(.int ((c0 >>> ((8 : Int32) &&& 31)).toInt8.toInt32)), (.int (((c0.toInt8.toInt32) &&& (255 : Int32)) <<< ((0 : Int32) &&& 31)))]))
  refine oS (fun _ k => XS.sipush X37.here hx rfl (hb hby d22_49) k) ?_
  refine oS (fun _ k => XS.iand X37.here hx rfl (hb hby d22_52) rfl k) ?_
  show own_go _ _ _ _ _ _ _ (T37.setTop (mkF m 53 #[.val (.ref t), .val (.int (1 : Int32))] [(.int (((c0 >>> ((8 : Int32) &&& 31)).toInt8.toInt32) &&& (255 : Int32))), (.int (((c0.toInt8.toInt32) &&& (255 : Int32)) <<< ((0 : Int32) &&& 31)))]))
  obtain ⟨T38, X38, e38, st38⟩ := getS2 X37 hx hZ hown (host := "") (Or.inl (ow hw 96 rfl)) Via.refl e37 (hS.2.2.2.2.2.2.ext O0.2) (g := (mkF m 53 #[.val (.ref t), .val (.int (1 : Int32))] [(.int (((c0 >>> ((8 : Int32) &&& 31)).toInt8.toInt32) &&& (255 : Int32))), (.int (((c0.toInt8.toInt32) &&& (255 : Int32)) <<< ((0 : Int32) &&& 31)))])) rfl (hb hby d22_53)
  refine oS st38 ?_
  show own_go _ _ _ _ _ _ _ (T38.setTop (mkF m 56 #[.val (.ref t), .val (.int (1 : Int32))] [(.int (8 : Int32)), (.int (((c0 >>> ((8 : Int32) &&& 31)).toInt8.toInt32) &&& (255 : Int32))), (.int (((c0.toInt8.toInt32) &&& (255 : Int32)) <<< ((0 : Int32) &&& 31)))]))
  refine oS (fun _ k => XS.ishl X38.here hx rfl (hb hby d22_56) rfl k) ?_
  refine oS (fun _ k => XS.ior X38.here hx rfl (hb hby d22_57) rfl k) ?_
  refine oS (fun _ k => XS.i2c X38.here hx rfl (hb hby d22_58) rfl k) ?_
  show own_go _ _ _ _ _ _ _ (T38.setTop (mkF m 59 #[.val (.ref t), .val (.int (1 : Int32))] [(.int (((((c0.toInt8.toInt32) &&& (255 : Int32)) <<< ((0 : Int32) &&& 31)) ||| ((((c0 >>> ((8 : Int32) &&& 31)).toInt8.toInt32) &&& (255 : Int32)) <<< ((8 : Int32) &&& 31))).toUInt32.toUInt16.toUInt32.toInt32))]))
  have pq : (((((c0.toInt8.toInt32) &&& (255 : Int32)) <<< ((0 : Int32) &&& 31)) ||| ((((c0 >>> ((8 : Int32) &&& 31)).toInt8.toInt32) &&& (255 : Int32)) <<< ((8 : Int32) &&& 31))).toUInt32.toUInt16.toUInt32.toInt32) = c0 := StrChars.pair_says hc0.1 hc0.2
  rw [pq]
  show own_go _ _ _ _ _ _ _ (T38.setTop (mkF m 59 #[.val (.ref t), .val (.int (1 : Int32))] [(.int c0)]))
  exact own_retN X38 hx hlk (t := .char) hret (by simp) (StrChars.narrow_ch hc0.1 hc0.2) (hb hby d22_59) (by decide) (by decide) (⟨rfl, N0, e38⟩)
theorem d23_0 : decode jdk_52_method_83_code 0 = .ok (.iload_n 1, 1) := by decide +kernel
theorem d23_1 : decode jdk_52_method_83_code 1 = .ok (.aload_n 0, 1) := by decide +kernel
theorem d23_2 : decode jdk_52_method_83_code 2 = .ok (.invokestatic 67, 3) := by decide +kernel
theorem d23_5 : decode jdk_52_method_83_code 5 = .ok (.aload_n 0, 1) := by decide +kernel
theorem d23_6 : decode jdk_52_method_83_code 6 = .ok (.iload_n 1, 1) := by decide +kernel
theorem d23_7 : decode jdk_52_method_83_code 7 = .ok (.invokestatic 71, 3) := by decide +kernel
theorem d23_10 : decode jdk_52_method_83_code 10 = .ok (.ireturn, 1) := by decide +kernel
theorem own_pn_23 : plainFor (⟨"java/lang/StringUTF16", "charAt", "([BI)C"⟩ : MethodName) = true := plainFor_of_name (show plainName "java/lang/StringUTF16" = true by first | (simp [plainName, overriddenIn]; done) | decide +kernel)
theorem own_pd__28I_5bB_29V : parseMethodDescriptor "(I[B)V" = some ⟨[.int, (.array .byte)], none⟩ := by decide +kernel
theorem own_pd__28_5bBI_29C : parseMethodDescriptor "([BI)C" = some ⟨[(.array .byte), .int], some .char⟩ := by decide +kernel
theorem own_ef_rm_uch_1_0 (m : MethodId) (t : Addr) : entryFrame m #[(.ref t), (.int (0 : Int32))] 2 = mkF m 0 #[.val (.ref t), .val (.int (0 : Int32))] [] := by first | (simp [entryFrame, mkF, argsToLocals, Value.category]; done) | rfl
set_option maxRecDepth 65536 in
set_option maxHeartbeats 40000000 in
theorem rm_uch_1_0 (l : Launch) (Z : State) (a0 : Array Value) (hw : ∀ d ∈ tables_1, d.before a0 Z = true) (t : Addr) (k : ClassId) (c0 : Int32) (zC : Int32) (vS : Value) (h0 : Heap) (n0 : Nat) (O0 : Old Z n0 h0) (hS : own_S Z zC vS) (V1 : Arv Z h0 t k .byte (2 : Int32) [(.int (c0.toInt8.toInt32)), (.int ((c0 >>> ((8 : Int32) &&& 31)).toInt8.toInt32))] (.int (0 : Int32))) (hc0 : own_ch c0) :
    own_Met l Z (⟨"java/lang/StringUTF16", "charAt", "([BI)C"⟩ : MethodName) jdk_52_method_83_code 2 (some .char) [] ({ frames := 3, cells := 0, slots := 0, locals := 48 } : Room) #[(.ref t), (.int (0 : Int32))] h0 (fun v h L => v = some (.int c0) ∧ Fr n0 L ∧ h = h0) := by
  refine own_body own_pn_23 ?_
  intro p e s m below meth c s₁ hx hby hml hown hnm hret hlk X0 hZ e0
  replace hown : s.vm.findClass "java/lang/StringUTF16" = some m.cls := hown
  have N0 := Fr.nil n0
  have K0 := Keep.refl h0 []
  refine oS (fun _ k => castTop (own_ef_rm_uch_1_0 m t) k) ?_
  show own_go _ _ _ _ _ _ _ (s₁.setTop (mkF m 0 #[.val (.ref t), .val (.int (0 : Int32))] []))
  refine oS (fun _ k => XS.iloadN X0.here hx rfl (hb hby d23_0) rfl k) ?_
  refine oS (fun _ k => XS.aloadN X0.here hx rfl (hb hby d23_1) rfl rfl k) ?_
  show own_go _ _ _ _ _ _ _ (s₁.setTop (mkF m 2 #[.val (.ref t), .val (.int (0 : Int32))] [(.ref t), (.int (0 : Int32))]))
  obtain ⟨v39, T39, L39, X39, hQ39, st39⟩ := own_callS X0 hx hZ (argsL := [(.int (0 : Int32)), (.ref t)]) (rest := []) (rm_uck_1_0 l Z a0 hw t k _ zC vS h0 n0 O0 hS V1) hown (ow hw 103 rfl) (ow hw 104 rfl) (ow hw 38 rfl) (ow hw 105 rfl) (by decide) e0 (g := (mkF m 2 #[.val (.ref t), .val (.int (0 : Int32))] [(.ref t), (.int (0 : Int32))])) rfl (by rw [hml]; rfl) (lenOf own_pd__28I_5bB_29V rfl) rfl (W := 0) (by show 2 * 0 + _ ≤ _; exact Nat.le_of_eq rfl) (hb hby d23_2) (by decide) (by decide) (by decide) (by decide)
  obtain ⟨rfl, Nq39, eq39⟩ := hQ39
  have N39 := Fr.app N0 Nq39
  refine oS st39 ?_
  show own_go _ _ _ _ _ _ _ (T39.setTop (mkF m 5 #[.val (.ref t), .val (.int (0 : Int32))] []))
  refine oS (fun _ k => XS.aloadN X39.here hx rfl (hb hby d23_5) rfl rfl k) ?_
  refine oS (fun _ k => XS.iloadN X39.here hx rfl (hb hby d23_6) rfl k) ?_
  show own_go _ _ _ _ _ _ _ (T39.setTop (mkF m 7 #[.val (.ref t), .val (.int (0 : Int32))] [(.int (0 : Int32)), (.ref t)]))
  obtain ⟨v40, T40, L40, X40, hQ40, st40⟩ := own_callS X39 hx hZ (argsL := [(.ref t), (.int (0 : Int32))]) (rest := []) (rm_gc_1_0 l Z a0 hw t k c0 zC vS h0 n0 O0 hS V1 hc0) hown (ow hw 97 rfl) (ow hw 98 rfl) (ow hw 38 rfl) (ow hw 99 rfl) (by decide) eq39 (g := (mkF m 7 #[.val (.ref t), .val (.int (0 : Int32))] [(.int (0 : Int32)), (.ref t)])) rfl (by rw [hml]; rfl) (lenOf own_pd__28_5bBI_29C rfl) rfl (W := 0) (by show 2 * 0 + _ ≤ _; exact Nat.le_of_eq rfl) (hb hby d23_7) (by decide) (by decide) (by decide) (by decide)
  obtain ⟨rfl, Nq40, eq40⟩ := hQ40
  have N40 := Fr.app N39 Nq40
  refine oS st40 ?_
  show own_go _ _ _ _ _ _ _ (T40.setTop (mkF m 10 #[.val (.ref t), .val (.int (0 : Int32))] [(.int c0)]))
  exact own_retN X40 hx hlk (t := .char) hret (by simp) (StrChars.narrow_ch hc0.1 hc0.2) (hb hby d23_10) (by decide) (by decide) (⟨rfl, N40, eq40⟩)
theorem d13_0 : decode jdk_42_method_56_code 0 = .ok (.aload_n 0, 1) := by decide +kernel
theorem d13_1 : decode jdk_42_method_56_code 1 = .ok (.invokevirtual 492, 3) := by decide +kernel
theorem d13_4 : decode jdk_42_method_56_code 4 = .ok (.ifCond .eq 12, 3) := by decide +kernel
theorem d13_7 : decode jdk_42_method_56_code 7 = .ok (.aload_n 0, 1) := by decide +kernel
theorem d13_8 : decode jdk_42_method_56_code 8 = .ok (.getfield 9, 3) := by decide +kernel
theorem d13_11 : decode jdk_42_method_56_code 11 = .ok (.iload_n 1, 1) := by decide +kernel
theorem d13_12 : decode jdk_42_method_56_code 12 = .ok (.invokestatic 495, 3) := by decide +kernel
theorem d13_15 : decode jdk_42_method_56_code 15 = .ok (.ireturn, 1) := by decide +kernel
theorem own_pn_13 : plainFor (⟨"java/lang/String", "charAt", "(I)C"⟩ : MethodName) = true := plainFor_of_name (show plainName "java/lang/String" = true by first | (simp [plainName, overriddenIn]; done) | decide +kernel)
theorem own_pd__28_29Z : parseMethodDescriptor "()Z" = some ⟨[], some .boolean⟩ := by decide +kernel
theorem own_ef_rm_chL_1_0 (m : MethodId) (a1 : Addr) : entryFrame m #[(.ref a1), (.int (0 : Int32))] 2 = mkF m 0 #[.val (.ref a1), .val (.int (0 : Int32))] [] := by first | (simp [entryFrame, mkF, argsToLocals, Value.category]; done) | rfl
set_option maxRecDepth 65536 in
set_option maxHeartbeats 40000000 in
theorem rm_chL_1_0 (l : Launch) (Z : State) (a0 : Array Value) (hw : ∀ d ∈ tables_1, d.before a0 Z = true) (a1 t : Addr) (k : ClassId) (c0 : Int32) (zC : Int32) (vS : Value) (h0 : Heap) (n0 : Nat) (O0 : Old Z n0 h0) (hS : own_S Z zC vS) (E_a1 : Exa Z h0 a1 "java/lang/String") (F1 : Fld Z h0 a1 "java/lang/String" "value" "[B" (.ref t)) (F2 : Fld Z h0 a1 "java/lang/String" "coder" "B" (.int (0 : Int32))) (V1 : Arv Z h0 t k .byte (1 : Int32) [(.int (c0.toInt8.toInt32))] (.int (0 : Int32))) (hc0 : own_ch c0) (hl : ¬ (255 : Int32) < c0) :
    own_Met l Z (⟨"java/lang/String", "charAt", "(I)C"⟩ : MethodName) jdk_42_method_56_code 2 (some .char) [] ({ frames := 4, cells := 0, slots := 0, locals := 64 } : Room) #[(.ref a1), (.int (0 : Int32))] h0 (fun v h L => v = some (.int c0) ∧ Fr n0 L ∧ h = h0) := by
  refine own_body own_pn_13 ?_
  intro p e s m below meth c s₁ hx hby hml hown hnm hret hlk X0 hZ e0
  replace hown : s.vm.findClass "java/lang/String" = some m.cls := hown
  have N0 := Fr.nil n0
  have K0 := Keep.refl h0 []
  refine oS (fun _ k => castTop (own_ef_rm_chL_1_0 m a1) k) ?_
  show own_go _ _ _ _ _ _ _ (s₁.setTop (mkF m 0 #[.val (.ref a1), .val (.int (0 : Int32))] []))
  refine oS (fun _ k => XS.aloadN X0.here hx rfl (hb hby d13_0) rfl rfl k) ?_
  show own_go _ _ _ _ _ _ _ (s₁.setTop (mkF m 1 #[.val (.ref a1), .val (.int (0 : Int32))] [(.ref a1)]))
  obtain ⟨v41, T41, L41, X41, hQ41, st41⟩ := own_callV X0 hx hZ (argsL := []) (rest := []) (rm_isLatin1_0 l Z a0 hw a1 zC vS h0 n0 O0 hS F2) hown (ow hw 64 rfl) (ow hw 65 rfl) (notFace_of_selects (args := #[]) (mvT hZ (ow hw 67 rfl))) (ow hw 67 rfl) (ow hw 66 rfl) (ow hw 6 rfl) (ow hw 68 rfl) (by decide) e0 E_a1 (g := (mkF m 1 #[.val (.ref a1), .val (.int (0 : Int32))] [(.ref a1)])) rfl (by rw [hml]; rfl) (lenOf own_pd__28_29Z rfl) rfl (W := 0) (by show 2 * 0 + _ ≤ _; exact Nat.le_of_eq rfl) (hb hby d13_1) (by decide) (by decide) (by decide) (by decide)
  obtain ⟨rfl, Nq41, eq41⟩ := hQ41
  have N41 := Fr.app N0 Nq41
  refine oS st41 ?_
  show own_go _ _ _ _ _ _ _ (T41.setTop (mkF m 4 #[.val (.ref a1), .val (.int (0 : Int32))] [(.int (1 : Int32))]))
  refine oS (fun _ k => XS.ifNo X41.here hx rfl (hb hby d13_4) rfl (by decide) k) ?_
  refine oS (fun _ k => XS.aloadN X41.here hx rfl (hb hby d13_7) rfl rfl k) ?_
  show own_go _ _ _ _ _ _ _ (T41.setTop (mkF m 8 #[.val (.ref a1), .val (.int (0 : Int32))] [(.ref a1)]))
  obtain ⟨T42, X42, e42, st42⟩ := getF X41 hx hZ hown (host := "") (Or.inl (ow hw 24 rfl)) Via.refl eq41 F1 (g := (mkF m 8 #[.val (.ref a1), .val (.int (0 : Int32))] [(.ref a1)])) rfl rfl (hb hby d13_8)
  refine oS st42 ?_
  show own_go _ _ _ _ _ _ _ (T42.setTop (mkF m 11 #[.val (.ref a1), .val (.int (0 : Int32))] [(.ref t)]))
  refine oS (fun _ k => XS.iloadN X42.here hx rfl (hb hby d13_11) rfl k) ?_
  show own_go _ _ _ _ _ _ _ (T42.setTop (mkF m 12 #[.val (.ref a1), .val (.int (0 : Int32))] [(.int (0 : Int32)), (.ref t)]))
  obtain ⟨v43, T43, L43, X43, hQ43, st43⟩ := own_callS X42 hx hZ (argsL := [(.ref t), (.int (0 : Int32))]) (rest := []) (rm_lch_1_0 l Z a0 hw t k c0 zC vS h0 n0 O0 hS V1 hc0 hl) hown (ow hw 69 rfl) (ow hw 70 rfl) (ow hw 71 rfl) (ow hw 72 rfl) (by decide) e42 (g := (mkF m 12 #[.val (.ref a1), .val (.int (0 : Int32))] [(.int (0 : Int32)), (.ref t)])) rfl (by rw [hml]; rfl) (lenOf own_pd__28_5bBI_29C rfl) rfl (W := 0) (by show 2 * 0 + _ ≤ _; exact Nat.le_of_eq rfl) (hb hby d13_12) (by decide) (by decide) (by decide) (by decide)
  obtain ⟨rfl, Nq43, eq43⟩ := hQ43
  have N43 := Fr.app N41 Nq43
  refine oS st43 ?_
  show own_go _ _ _ _ _ _ _ (T43.setTop (mkF m 15 #[.val (.ref a1), .val (.int (0 : Int32))] [(.int c0)]))
  exact own_retN X43 hx hlk (t := .char) hret (by simp) (StrChars.narrow_ch hc0.1 hc0.2) (hb hby d13_15) (by decide) (by decide) (⟨rfl, N43, eq43⟩)
theorem d13_16 : decode jdk_42_method_56_code 16 = .ok (.aload_n 0, 1) := by decide +kernel
theorem d13_17 : decode jdk_42_method_56_code 17 = .ok (.getfield 9, 3) := by decide +kernel
theorem d13_20 : decode jdk_42_method_56_code 20 = .ok (.iload_n 1, 1) := by decide +kernel
theorem d13_21 : decode jdk_42_method_56_code 21 = .ok (.invokestatic 498, 3) := by decide +kernel
theorem d13_24 : decode jdk_42_method_56_code 24 = .ok (.ireturn, 1) := by decide +kernel
theorem own_ef_rm_chW_1_0 (m : MethodId) (a1 : Addr) : entryFrame m #[(.ref a1), (.int (0 : Int32))] 2 = mkF m 0 #[.val (.ref a1), .val (.int (0 : Int32))] [] := by first | (simp [entryFrame, mkF, argsToLocals, Value.category]; done) | rfl
set_option maxRecDepth 65536 in
set_option maxHeartbeats 40000000 in
theorem rm_chW_1_0 (l : Launch) (Z : State) (a0 : Array Value) (hw : ∀ d ∈ tables_1, d.before a0 Z = true) (a1 t : Addr) (k : ClassId) (c0 : Int32) (zC : Int32) (vS : Value) (h0 : Heap) (n0 : Nat) (O0 : Old Z n0 h0) (hS : own_S Z zC vS) (E_a1 : Exa Z h0 a1 "java/lang/String") (F1 : Fld Z h0 a1 "java/lang/String" "value" "[B" (.ref t)) (F2 : Fld Z h0 a1 "java/lang/String" "coder" "B" (.int (1 : Int32))) (V1 : Arv Z h0 t k .byte (2 : Int32) [(.int (c0.toInt8.toInt32)), (.int ((c0 >>> ((8 : Int32) &&& 31)).toInt8.toInt32))] (.int (0 : Int32))) (hc0 : own_ch c0) :
    own_Met l Z (⟨"java/lang/String", "charAt", "(I)C"⟩ : MethodName) jdk_42_method_56_code 2 (some .char) [] ({ frames := 4, cells := 0, slots := 0, locals := 64 } : Room) #[(.ref a1), (.int (0 : Int32))] h0 (fun v h L => v = some (.int c0) ∧ Fr n0 L ∧ h = h0) := by
  refine own_body own_pn_13 ?_
  intro p e s m below meth c s₁ hx hby hml hown hnm hret hlk X0 hZ e0
  replace hown : s.vm.findClass "java/lang/String" = some m.cls := hown
  have N0 := Fr.nil n0
  have K0 := Keep.refl h0 []
  refine oS (fun _ k => castTop (own_ef_rm_chW_1_0 m a1) k) ?_
  show own_go _ _ _ _ _ _ _ (s₁.setTop (mkF m 0 #[.val (.ref a1), .val (.int (0 : Int32))] []))
  refine oS (fun _ k => XS.aloadN X0.here hx rfl (hb hby d13_0) rfl rfl k) ?_
  show own_go _ _ _ _ _ _ _ (s₁.setTop (mkF m 1 #[.val (.ref a1), .val (.int (0 : Int32))] [(.ref a1)]))
  obtain ⟨v44, T44, L44, X44, hQ44, st44⟩ := own_callV X0 hx hZ (argsL := []) (rest := []) (rm_isLatin1_1 l Z a0 hw a1 zC vS h0 n0 O0 hS F2) hown (ow hw 64 rfl) (ow hw 65 rfl) (notFace_of_selects (args := #[]) (mvT hZ (ow hw 67 rfl))) (ow hw 67 rfl) (ow hw 66 rfl) (ow hw 6 rfl) (ow hw 68 rfl) (by decide) e0 E_a1 (g := (mkF m 1 #[.val (.ref a1), .val (.int (0 : Int32))] [(.ref a1)])) rfl (by rw [hml]; rfl) (lenOf own_pd__28_29Z rfl) rfl (W := 0) (by show 2 * 0 + _ ≤ _; exact Nat.le_of_eq rfl) (hb hby d13_1) (by decide) (by decide) (by decide) (by decide)
  obtain ⟨rfl, Nq44, eq44⟩ := hQ44
  have N44 := Fr.app N0 Nq44
  refine oS st44 ?_
  show own_go _ _ _ _ _ _ _ (T44.setTop (mkF m 4 #[.val (.ref a1), .val (.int (0 : Int32))] [(.int (0 : Int32))]))
  refine oS (fun _ k => XS.ifYes X44.here hx rfl (pc0 := 4) (pc' := 16) rfl (hb hby d13_4) rfl (by decide) (by decide) (by decide) k) ?_
  refine oS (fun _ k => XS.aloadN X44.here hx rfl (hb hby d13_16) rfl rfl k) ?_
  show own_go _ _ _ _ _ _ _ (T44.setTop (mkF m 17 #[.val (.ref a1), .val (.int (0 : Int32))] [(.ref a1)]))
  obtain ⟨T45, X45, e45, st45⟩ := getF X44 hx hZ hown (host := "") (Or.inl (ow hw 24 rfl)) Via.refl eq44 F1 (g := (mkF m 17 #[.val (.ref a1), .val (.int (0 : Int32))] [(.ref a1)])) rfl rfl (hb hby d13_17)
  refine oS st45 ?_
  show own_go _ _ _ _ _ _ _ (T45.setTop (mkF m 20 #[.val (.ref a1), .val (.int (0 : Int32))] [(.ref t)]))
  refine oS (fun _ k => XS.iloadN X45.here hx rfl (hb hby d13_20) rfl k) ?_
  show own_go _ _ _ _ _ _ _ (T45.setTop (mkF m 21 #[.val (.ref a1), .val (.int (0 : Int32))] [(.int (0 : Int32)), (.ref t)]))
  obtain ⟨v46, T46, L46, X46, hQ46, st46⟩ := own_callS X45 hx hZ (argsL := [(.ref t), (.int (0 : Int32))]) (rest := []) (rm_uch_1_0 l Z a0 hw t k c0 zC vS h0 n0 O0 hS V1 hc0) hown (ow hw 100 rfl) (ow hw 101 rfl) (ow hw 38 rfl) (ow hw 102 rfl) (by decide) e45 (g := (mkF m 21 #[.val (.ref a1), .val (.int (0 : Int32))] [(.int (0 : Int32)), (.ref t)])) rfl (by rw [hml]; rfl) (lenOf own_pd__28_5bBI_29C rfl) rfl (W := 0) (by show 2 * 0 + _ ≤ _; exact Nat.le_of_eq rfl) (hb hby d13_21) (by decide) (by decide) (by decide) (by decide)
  obtain ⟨rfl, Nq46, eq46⟩ := hQ46
  have N46 := Fr.app N44 Nq46
  refine oS st46 ?_
  show own_go _ _ _ _ _ _ _ (T46.setTop (mkF m 24 #[.val (.ref a1), .val (.int (0 : Int32))] [(.int c0)]))
  exact own_retN X46 hx hlk (t := .char) hret (by simp) (StrChars.narrow_ch hc0.1 hc0.2) (hb hby d13_24) (by decide) (by decide) (⟨rfl, N46, eq46⟩)
theorem own_ef_rm_ulen_2 (m : MethodId) (t : Addr) : entryFrame m #[(.ref t)] 1 = mkF m 0 #[.val (.ref t)] [] := by first | (simp [entryFrame, mkF, argsToLocals, Value.category]; done) | rfl
set_option maxRecDepth 65536 in
set_option maxHeartbeats 40000000 in
theorem rm_ulen_2 (l : Launch) (Z : State) (a0 : Array Value) (hw : ∀ d ∈ tables_1, d.before a0 Z = true) (t : Addr) (k : ClassId) (vs : List Value) (h0 : Heap) (n0 : Nat) (O0 : Old Z n0 h0) (V1 : Arv Z h0 t k .byte (4 : Int32) vs (.int (0 : Int32))) :
    own_Met l Z (⟨"java/lang/StringUTF16", "length", "([B)I"⟩ : MethodName) jdk_52_method_6_code 1 (some .int) [] ({ frames := 0, cells := 0, slots := 0, locals := 0 } : Room) #[(.ref t)] h0 (fun v h L => v = some (.int (2 : Int32)) ∧ Fr n0 L ∧ h = h0) := by
  refine own_body own_pn_25 ?_
  intro p e s m below meth c s₁ hx hby hml hown hnm hret hlk X0 hZ e0
  replace hown : s.vm.findClass "java/lang/StringUTF16" = some m.cls := hown
  have N0 := Fr.nil n0
  have K0 := Keep.refl h0 []
  refine oS (fun _ k => castTop (own_ef_rm_ulen_2 m t) k) ?_
  show own_go _ _ _ _ _ _ _ (s₁.setTop (mkF m 0 #[.val (.ref t)] []))
  refine oS (fun _ k => XS.aloadN X0.here hx rfl (hb hby d25_0) rfl rfl k) ?_
  show own_go _ _ _ _ _ _ _ (s₁.setTop (mkF m 1 #[.val (.ref t)] [(.ref t)]))
  refine oS (own_len X0 hx hZ e0 V1 (g := (mkF m 1 #[.val (.ref t)] [(.ref t)])) rfl rfl (hb hby d25_1)) ?_
  show own_go _ _ _ _ _ _ _ (s₁.setTop (mkF m 2 #[.val (.ref t)] [(.int (4 : Int32))]))
  refine oS (fun _ k => XS.iconst X0.here hx rfl (hb hby d25_2) k) ?_
  refine oS (fun _ k => XS.ishr X0.here hx rfl (hb hby d25_3) rfl k) ?_
  show own_go _ _ _ _ _ _ _ (s₁.setTop (mkF m 4 #[.val (.ref t)] [(.int ((4 : Int32) >>> ((1 : Int32) &&& 31)))]))
  rw [(by decide : ((4 : Int32) >>> ((1 : Int32) &&& 31)) = (2 : Int32))]
  show own_go _ _ _ _ _ _ _ (s₁.setTop (mkF m 4 #[.val (.ref t)] [(.int (2 : Int32))]))
  exact own_retI X0 hx hlk hret (hb hby d25_4) (by decide) (by decide) (⟨rfl, N0, e0⟩)
theorem own_ef_rm_lch_2_0 (m : MethodId) (t : Addr) : entryFrame m #[(.ref t), (.int (0 : Int32))] 2 = mkF m 0 #[.val (.ref t), .val (.int (0 : Int32))] [] := by first | (simp [entryFrame, mkF, argsToLocals, Value.category]; done) | rfl
set_option maxRecDepth 65536 in
set_option maxHeartbeats 40000000 in
theorem rm_lch_2_0 (l : Launch) (Z : State) (a0 : Array Value) (hw : ∀ d ∈ tables_1, d.before a0 Z = true) (t : Addr) (k : ClassId) (c0 c1 : Int32) (zC : Int32) (vS : Value) (h0 : Heap) (n0 : Nat) (O0 : Old Z n0 h0) (hS : own_S Z zC vS) (V1 : Arv Z h0 t k .byte (2 : Int32) [(.int (c0.toInt8.toInt32)), (.int (c1.toInt8.toInt32))] (.int (0 : Int32))) (hc0 : own_ch c0) (hl : ¬ (255 : Int32) < c0) :
    own_Met l Z (⟨"java/lang/StringLatin1", "charAt", "([BI)C"⟩ : MethodName) jdk_43_method_2_code 2 (some .char) [] ({ frames := 2, cells := 0, slots := 0, locals := 32 } : Room) #[(.ref t), (.int (0 : Int32))] h0 (fun v h L => v = some (.int c0) ∧ Fr n0 L ∧ h = h0) := by
  refine own_body own_pn_15 ?_
  intro p e s m below meth c s₁ hx hby hml hown hnm hret hlk X0 hZ e0
  replace hown : s.vm.findClass "java/lang/StringLatin1" = some m.cls := hown
  have N0 := Fr.nil n0
  have K0 := Keep.refl h0 []
  refine oS (fun _ k => castTop (own_ef_rm_lch_2_0 m t) k) ?_
  show own_go _ _ _ _ _ _ _ (s₁.setTop (mkF m 0 #[.val (.ref t), .val (.int (0 : Int32))] []))
  refine oS (fun _ k => XS.iloadN X0.here hx rfl (hb hby d15_0) rfl k) ?_
  refine oS (fun _ k => XS.aloadN X0.here hx rfl (hb hby d15_1) rfl rfl k) ?_
  show own_go _ _ _ _ _ _ _ (s₁.setTop (mkF m 2 #[.val (.ref t), .val (.int (0 : Int32))] [(.ref t), (.int (0 : Int32))]))
  refine oS (own_len X0 hx hZ e0 V1 (g := (mkF m 2 #[.val (.ref t), .val (.int (0 : Int32))] [(.ref t), (.int (0 : Int32))])) rfl rfl (hb hby d15_2)) ?_
  show own_go _ _ _ _ _ _ _ (s₁.setTop (mkF m 3 #[.val (.ref t), .val (.int (0 : Int32))] [(.int (2 : Int32)), (.int (0 : Int32))]))
  obtain ⟨v47, T47, L47, X47, hQ47, st47⟩ := own_callS X0 hx hZ (argsL := [(.int (0 : Int32)), (.int (2 : Int32))]) (rest := []) (rm_cki l Z a0 hw (0 : Int32) (2 : Int32) zC vS h0 n0 O0 hS (by decide) (by decide)) hown (ow hw 73 rfl) (ow hw 74 rfl) (ow hw 6 rfl) (ow hw 75 rfl) (by decide) e0 (g := (mkF m 3 #[.val (.ref t), .val (.int (0 : Int32))] [(.int (2 : Int32)), (.int (0 : Int32))])) rfl (by rw [hml]; rfl) (lenOf own_pd__28II_29V rfl) rfl (W := 0) (by show 2 * 0 + _ ≤ _; exact Nat.le_of_eq rfl) (hb hby d15_3) (by decide) (by decide) (by decide) (by decide)
  obtain ⟨rfl, Nq47, eq47⟩ := hQ47
  have N47 := Fr.app N0 Nq47
  refine oS st47 ?_
  show own_go _ _ _ _ _ _ _ (T47.setTop (mkF m 6 #[.val (.ref t), .val (.int (0 : Int32))] []))
  refine oS (fun _ k => XS.aloadN X47.here hx rfl (hb hby d15_6) rfl rfl k) ?_
  refine oS (fun _ k => XS.iloadN X47.here hx rfl (hb hby d15_7) rfl k) ?_
  show own_go _ _ _ _ _ _ _ (T47.setTop (mkF m 8 #[.val (.ref t), .val (.int (0 : Int32))] [(.int (0 : Int32)), (.ref t)]))
  refine oS (own_getB X47 hx hZ eq47 V1 (j := (0 : Int32)) (by decide) (v := (.int (c0.toInt8.toInt32))) rfl (g := (mkF m 8 #[.val (.ref t), .val (.int (0 : Int32))] [(.int (0 : Int32)), (.ref t)])) rfl rfl (hb hby d15_8)) ?_
  show own_go _ _ _ _ _ _ _ (T47.setTop (mkF m 9 #[.val (.ref t), .val (.int (0 : Int32))] [(.int (c0.toInt8.toInt32))]))
  refine oS (fun _ k => XS.sipush X47.here hx rfl (hb hby d15_9) k) ?_
  refine oS (fun _ k => XS.iand X47.here hx rfl (hb hby d15_12) rfl k) ?_
  refine oS (fun _ k => XS.i2c X47.here hx rfl (hb hby d15_13) rfl k) ?_
  show own_go _ _ _ _ _ _ _ (T47.setTop (mkF m 14 #[.val (.ref t), .val (.int (0 : Int32))] [(.int (((c0.toInt8.toInt32) &&& (255 : Int32)).toUInt32.toUInt16.toUInt32.toInt32))]))
  have cq : (((c0.toInt8.toInt32) &&& (255 : Int32)).toUInt32.toUInt16.toUInt32.toInt32) = c0 := StrChars.chr8_lo8 hc0.1 hl
  rw [cq]
  show own_go _ _ _ _ _ _ _ (T47.setTop (mkF m 14 #[.val (.ref t), .val (.int (0 : Int32))] [(.int c0)]))
  exact own_retN X47 hx hlk (t := .char) hret (by simp) (StrChars.narrow_ch hc0.1 hc0.2) (hb hby d15_14) (by decide) (by decide) (⟨rfl, N47, eq47⟩)
theorem own_ef_rm_uck_2_0 (m : MethodId) (t : Addr) : entryFrame m #[(.int (0 : Int32)), (.ref t)] 2 = mkF m 0 #[.val (.int (0 : Int32)), .val (.ref t)] [] := by first | (simp [entryFrame, mkF, argsToLocals, Value.category]; done) | rfl
set_option maxRecDepth 65536 in
set_option maxHeartbeats 40000000 in
theorem rm_uck_2_0 (l : Launch) (Z : State) (a0 : Array Value) (hw : ∀ d ∈ tables_1, d.before a0 Z = true) (t : Addr) (k : ClassId) (vs : List Value) (zC : Int32) (vS : Value) (h0 : Heap) (n0 : Nat) (O0 : Old Z n0 h0) (hS : own_S Z zC vS) (V1 : Arv Z h0 t k .byte (4 : Int32) vs (.int (0 : Int32))) :
    own_Met l Z (⟨"java/lang/StringUTF16", "checkIndex", "(I[B)V"⟩ : MethodName) jdk_52_method_91_code 2 none [] ({ frames := 2, cells := 0, slots := 0, locals := 32 } : Room) #[(.int (0 : Int32)), (.ref t)] h0 (fun v h L => v = none ∧ Fr n0 L ∧ h = h0) := by
  refine own_body own_pn_24 ?_
  intro p e s m below meth c s₁ hx hby hml hown hnm hret hlk X0 hZ e0
  replace hown : s.vm.findClass "java/lang/StringUTF16" = some m.cls := hown
  have N0 := Fr.nil n0
  have K0 := Keep.refl h0 []
  refine oS (fun _ k => castTop (own_ef_rm_uck_2_0 m t) k) ?_
  show own_go _ _ _ _ _ _ _ (s₁.setTop (mkF m 0 #[.val (.int (0 : Int32)), .val (.ref t)] []))
  refine oS (fun _ k => XS.iloadN X0.here hx rfl (hb hby d24_0) rfl k) ?_
  refine oS (fun _ k => XS.aloadN X0.here hx rfl (hb hby d24_1) rfl rfl k) ?_
  show own_go _ _ _ _ _ _ _ (s₁.setTop (mkF m 2 #[.val (.int (0 : Int32)), .val (.ref t)] [(.ref t), (.int (0 : Int32))]))
  obtain ⟨v48, T48, L48, X48, hQ48, st48⟩ := own_callS X0 hx hZ (argsL := [(.ref t)]) (rest := [(.int (0 : Int32))]) (rm_ulen_2 l Z a0 hw t k vs h0 n0 O0 V1) hown (ow hw 106 rfl) (ow hw 107 rfl) (ow hw 38 rfl) (ow hw 108 rfl) (by decide) e0 (g := (mkF m 2 #[.val (.int (0 : Int32)), .val (.ref t)] [(.ref t), (.int (0 : Int32))])) rfl (by rw [hml]; rfl) (lenOf own_pd__28_5bB_29I rfl) rfl (W := 1) (by show 2 * 0 + _ ≤ _; exact Nat.le_of_eq rfl) (hb hby d24_2) (by decide) (by decide) (by decide) (by decide)
  obtain ⟨rfl, Nq48, eq48⟩ := hQ48
  have N48 := Fr.app N0 Nq48
  refine oS st48 ?_
  show own_go _ _ _ _ _ _ _ (T48.setTop (mkF m 5 #[.val (.int (0 : Int32)), .val (.ref t)] [(.int (2 : Int32)), (.int (0 : Int32))]))
  obtain ⟨v49, T49, L49, X49, hQ49, st49⟩ := own_callS X48 hx hZ (argsL := [(.int (0 : Int32)), (.int (2 : Int32))]) (rest := []) (rm_cki l Z a0 hw (0 : Int32) (2 : Int32) zC vS h0 n0 O0 hS (by decide) (by decide)) hown (ow hw 109 rfl) (ow hw 74 rfl) (ow hw 6 rfl) (ow hw 75 rfl) (by decide) eq48 (g := (mkF m 5 #[.val (.int (0 : Int32)), .val (.ref t)] [(.int (2 : Int32)), (.int (0 : Int32))])) rfl (by rw [hml]; rfl) (lenOf own_pd__28II_29V rfl) rfl (W := 0) (by show 2 * 0 + _ ≤ _; exact Nat.le_of_eq rfl) (hb hby d24_5) (by decide) (by decide) (by decide) (by decide)
  obtain ⟨rfl, Nq49, eq49⟩ := hQ49
  have N49 := Fr.app N48 Nq49
  refine oS st49 ?_
  show own_go _ _ _ _ _ _ _ (T49.setTop (mkF m 8 #[.val (.int (0 : Int32)), .val (.ref t)] []))
  exact own_ret0 X49 hx hlk hret (hb hby d24_8) (by decide) (by decide) (⟨rfl, N49, eq49⟩)
theorem own_ef_rm_gc_2_0 (m : MethodId) (t : Addr) : entryFrame m #[(.ref t), (.int (0 : Int32))] 2 = mkF m 0 #[.val (.ref t), .val (.int (0 : Int32))] [] := by first | (simp [entryFrame, mkF, argsToLocals, Value.category]; done) | rfl
set_option maxRecDepth 65536 in
set_option maxHeartbeats 40000000 in
theorem rm_gc_2_0 (l : Launch) (Z : State) (a0 : Array Value) (hw : ∀ d ∈ tables_1, d.before a0 Z = true) (t : Addr) (k : ClassId) (c0 c1 : Int32) (zC : Int32) (vS : Value) (h0 : Heap) (n0 : Nat) (O0 : Old Z n0 h0) (hS : own_S Z zC vS) (V1 : Arv Z h0 t k .byte (4 : Int32) [(.int (c0.toInt8.toInt32)), (.int ((c0 >>> ((8 : Int32) &&& 31)).toInt8.toInt32)), (.int (c1.toInt8.toInt32)), (.int ((c1 >>> ((8 : Int32) &&& 31)).toInt8.toInt32))] (.int (0 : Int32))) (hc0 : own_ch c0) :
    own_Met l Z (⟨"java/lang/StringUTF16", "getChar", "([BI)C"⟩ : MethodName) jdk_52_method_5_code 2 (some .char) [] ({ frames := 0, cells := 0, slots := 0, locals := 0 } : Room) #[(.ref t), (.int (0 : Int32))] h0 (fun v h L => v = some (.int c0) ∧ Fr n0 L ∧ h = h0) := by
  refine own_body own_pn_22 ?_
  intro p e s m below meth c s₁ hx hby hml hown hnm hret hlk X0 hZ e0
  replace hown : s.vm.findClass "java/lang/StringUTF16" = some m.cls := hown
  have N0 := Fr.nil n0
  have K0 := Keep.refl h0 []
  refine oS (fun _ k => castTop (own_ef_rm_gc_2_0 m t) k) ?_
  show own_go _ _ _ _ _ _ _ (s₁.setTop (mkF m 0 #[.val (.ref t), .val (.int (0 : Int32))] []))
  obtain ⟨T50, X50, e50, st50⟩ := getS2 X0 hx hZ hown (host := "") (Or.inl (ow hw 94 rfl)) Via.refl e0 (hS.2.2.2.2.1.ext O0.2) (g := (mkF m 0 #[.val (.ref t), .val (.int (0 : Int32))] [])) rfl (hb hby d22_0)
  refine oS st50 ?_
  show own_go _ _ _ _ _ _ _ (T50.setTop (mkF m 3 #[.val (.ref t), .val (.int (0 : Int32))] [(.int (1 : Int32))]))
  refine oS (fun _ k => XS.ifYes X50.here hx rfl (pc0 := 3) (pc' := 28) rfl (hb hby d22_3) rfl (by decide) (by decide) (by decide) k) ?_
  refine oS (fun _ k => XS.iloadN X50.here hx rfl (hb hby d22_28) rfl k) ?_
  refine oS (fun _ k => XS.iconst X50.here hx rfl (hb hby d22_29) k) ?_
  refine oS (fun _ k => XS.ishl X50.here hx rfl (hb hby d22_30) rfl k) ?_
  show own_go _ _ _ _ _ _ _ (T50.setTop (mkF m 31 #[.val (.ref t), .val (.int (0 : Int32))] [(.int ((0 : Int32) <<< ((1 : Int32) &&& 31)))]))
  rw [(by decide : ((0 : Int32) <<< ((1 : Int32) &&& 31)) = (0 : Int32))]
  show own_go _ _ _ _ _ _ _ (T50.setTop (mkF m 31 #[.val (.ref t), .val (.int (0 : Int32))] [(.int (0 : Int32))]))
  refine oS (fun _ k => XS.istoreN X50.here hx rfl (hb hby d22_31) rfl (l' := #[.val (.ref t), .val (.int (0 : Int32))]) rfl k) ?_
  refine oS (fun _ k => XS.aloadN X50.here hx rfl (hb hby d22_32) rfl rfl k) ?_
  refine oS (fun _ k => XS.iloadN X50.here hx rfl (hb hby d22_33) rfl k) ?_
  refine oS (fun _ k => XS.iinc X50.here hx rfl (hb hby d22_34) rfl (l' := #[.val (.ref t), .val (.int (1 : Int32))]) rfl k) ?_
  show own_go _ _ _ _ _ _ _ (T50.setTop (mkF m 37 #[.val (.ref t), .val (.int (1 : Int32))] [(.int (0 : Int32)), (.ref t)]))
  refine oS (own_getB X50 hx hZ e50 V1 (j := (0 : Int32)) (by decide) (v := (.int (c0.toInt8.toInt32))) rfl (g := (mkF m 37 #[.val (.ref t), .val (.int (1 : Int32))] [(.int (0 : Int32)), (.ref t)])) rfl rfl (hb hby d22_37)) ?_
  show own_go _ _ _ _ _ _ _ (T50.setTop (mkF m 38 #[.val (.ref t), .val (.int (1 : Int32))] [(.int (c0.toInt8.toInt32))]))
  refine oS (fun _ k => XS.sipush X50.here hx rfl (hb hby d22_38) k) ?_
  refine oS (fun _ k => XS.iand X50.here hx rfl (hb hby d22_41) rfl k) ?_
  show own_go _ _ _ _ _ _ _ (T50.setTop (mkF m 42 #[.val (.ref t), .val (.int (1 : Int32))] [(.int ((c0.toInt8.toInt32) &&& (255 : Int32)))]))
  obtain ⟨T51, X51, e51, st51⟩ := getS2 X50 hx hZ hown (host := "") (Or.inl (ow hw 95 rfl)) Via.refl e50 (hS.2.2.2.2.2.1.ext O0.2) (g := (mkF m 42 #[.val (.ref t), .val (.int (1 : Int32))] [(.int ((c0.toInt8.toInt32) &&& (255 : Int32)))])) rfl (hb hby d22_42)
  refine oS st51 ?_
  show own_go _ _ _ _ _ _ _ (T51.setTop (mkF m 45 #[.val (.ref t), .val (.int (1 : Int32))] [(.int (0 : Int32)), (.int ((c0.toInt8.toInt32) &&& (255 : Int32)))]))
  refine oS (fun _ k => XS.ishl X51.here hx rfl (hb hby d22_45) rfl k) ?_
  refine oS (fun _ k => XS.aloadN X51.here hx rfl (hb hby d22_46) rfl rfl k) ?_
  refine oS (fun _ k => XS.iloadN X51.here hx rfl (hb hby d22_47) rfl k) ?_
  show own_go _ _ _ _ _ _ _ (T51.setTop (mkF m 48 #[.val (.ref t), .val (.int (1 : Int32))] [(.int (1 : Int32)), (.ref t), (.int (((c0.toInt8.toInt32) &&& (255 : Int32)) <<< ((0 : Int32) &&& 31)))]))
  refine oS (own_getB X51 hx hZ e51 V1 (j := (1 : Int32)) (by decide) (v := (.int ((c0 >>> ((8 : Int32) &&& 31)).toInt8.toInt32))) rfl (g := (mkF m 48 #[.val (.ref t), .val (.int (1 : Int32))] [(.int (1 : Int32)), (.ref t), (.int (((c0.toInt8.toInt32) &&& (255 : Int32)) <<< ((0 : Int32) &&& 31)))])) rfl rfl (hb hby d22_48)) ?_
  show own_go _ _ _ _ _ _ _ (T51.setTop (mkF m 49 #[.val (.ref t), .val (.int (1 : Int32))] [(.int ((c0 >>> ((8 : Int32) &&& 31)).toInt8.toInt32)), (.int (((c0.toInt8.toInt32) &&& (255 : Int32)) <<< ((0 : Int32) &&& 31)))]))
  refine oS (fun _ k => XS.sipush X51.here hx rfl (hb hby d22_49) k) ?_
  refine oS (fun _ k => XS.iand X51.here hx rfl (hb hby d22_52) rfl k) ?_
  show own_go _ _ _ _ _ _ _ (T51.setTop (mkF m 53 #[.val (.ref t), .val (.int (1 : Int32))] [(.int (((c0 >>> ((8 : Int32) &&& 31)).toInt8.toInt32) &&& (255 : Int32))), (.int (((c0.toInt8.toInt32) &&& (255 : Int32)) <<< ((0 : Int32) &&& 31)))]))
  obtain ⟨T52, X52, e52, st52⟩ := getS2 X51 hx hZ hown (host := "") (Or.inl (ow hw 96 rfl)) Via.refl e51 (hS.2.2.2.2.2.2.ext O0.2) (g := (mkF m 53 #[.val (.ref t), .val (.int (1 : Int32))] [(.int (((c0 >>> ((8 : Int32) &&& 31)).toInt8.toInt32) &&& (255 : Int32))), (.int (((c0.toInt8.toInt32) &&& (255 : Int32)) <<< ((0 : Int32) &&& 31)))])) rfl (hb hby d22_53)
  refine oS st52 ?_
  show own_go _ _ _ _ _ _ _ (T52.setTop (mkF m 56 #[.val (.ref t), .val (.int (1 : Int32))] [(.int (8 : Int32)), (.int (((c0 >>> ((8 : Int32) &&& 31)).toInt8.toInt32) &&& (255 : Int32))), (.int (((c0.toInt8.toInt32) &&& (255 : Int32)) <<< ((0 : Int32) &&& 31)))]))
  refine oS (fun _ k => XS.ishl X52.here hx rfl (hb hby d22_56) rfl k) ?_
  refine oS (fun _ k => XS.ior X52.here hx rfl (hb hby d22_57) rfl k) ?_
  refine oS (fun _ k => XS.i2c X52.here hx rfl (hb hby d22_58) rfl k) ?_
  show own_go _ _ _ _ _ _ _ (T52.setTop (mkF m 59 #[.val (.ref t), .val (.int (1 : Int32))] [(.int (((((c0.toInt8.toInt32) &&& (255 : Int32)) <<< ((0 : Int32) &&& 31)) ||| ((((c0 >>> ((8 : Int32) &&& 31)).toInt8.toInt32) &&& (255 : Int32)) <<< ((8 : Int32) &&& 31))).toUInt32.toUInt16.toUInt32.toInt32))]))
  have pq : (((((c0.toInt8.toInt32) &&& (255 : Int32)) <<< ((0 : Int32) &&& 31)) ||| ((((c0 >>> ((8 : Int32) &&& 31)).toInt8.toInt32) &&& (255 : Int32)) <<< ((8 : Int32) &&& 31))).toUInt32.toUInt16.toUInt32.toInt32) = c0 := StrChars.pair_says hc0.1 hc0.2
  rw [pq]
  show own_go _ _ _ _ _ _ _ (T52.setTop (mkF m 59 #[.val (.ref t), .val (.int (1 : Int32))] [(.int c0)]))
  exact own_retN X52 hx hlk (t := .char) hret (by simp) (StrChars.narrow_ch hc0.1 hc0.2) (hb hby d22_59) (by decide) (by decide) (⟨rfl, N0, e52⟩)
theorem own_ef_rm_uch_2_0 (m : MethodId) (t : Addr) : entryFrame m #[(.ref t), (.int (0 : Int32))] 2 = mkF m 0 #[.val (.ref t), .val (.int (0 : Int32))] [] := by first | (simp [entryFrame, mkF, argsToLocals, Value.category]; done) | rfl
set_option maxRecDepth 65536 in
set_option maxHeartbeats 40000000 in
theorem rm_uch_2_0 (l : Launch) (Z : State) (a0 : Array Value) (hw : ∀ d ∈ tables_1, d.before a0 Z = true) (t : Addr) (k : ClassId) (c0 c1 : Int32) (zC : Int32) (vS : Value) (h0 : Heap) (n0 : Nat) (O0 : Old Z n0 h0) (hS : own_S Z zC vS) (V1 : Arv Z h0 t k .byte (4 : Int32) [(.int (c0.toInt8.toInt32)), (.int ((c0 >>> ((8 : Int32) &&& 31)).toInt8.toInt32)), (.int (c1.toInt8.toInt32)), (.int ((c1 >>> ((8 : Int32) &&& 31)).toInt8.toInt32))] (.int (0 : Int32))) (hc0 : own_ch c0) :
    own_Met l Z (⟨"java/lang/StringUTF16", "charAt", "([BI)C"⟩ : MethodName) jdk_52_method_83_code 2 (some .char) [] ({ frames := 3, cells := 0, slots := 0, locals := 48 } : Room) #[(.ref t), (.int (0 : Int32))] h0 (fun v h L => v = some (.int c0) ∧ Fr n0 L ∧ h = h0) := by
  refine own_body own_pn_23 ?_
  intro p e s m below meth c s₁ hx hby hml hown hnm hret hlk X0 hZ e0
  replace hown : s.vm.findClass "java/lang/StringUTF16" = some m.cls := hown
  have N0 := Fr.nil n0
  have K0 := Keep.refl h0 []
  refine oS (fun _ k => castTop (own_ef_rm_uch_2_0 m t) k) ?_
  show own_go _ _ _ _ _ _ _ (s₁.setTop (mkF m 0 #[.val (.ref t), .val (.int (0 : Int32))] []))
  refine oS (fun _ k => XS.iloadN X0.here hx rfl (hb hby d23_0) rfl k) ?_
  refine oS (fun _ k => XS.aloadN X0.here hx rfl (hb hby d23_1) rfl rfl k) ?_
  show own_go _ _ _ _ _ _ _ (s₁.setTop (mkF m 2 #[.val (.ref t), .val (.int (0 : Int32))] [(.ref t), (.int (0 : Int32))]))
  obtain ⟨v53, T53, L53, X53, hQ53, st53⟩ := own_callS X0 hx hZ (argsL := [(.int (0 : Int32)), (.ref t)]) (rest := []) (rm_uck_2_0 l Z a0 hw t k _ zC vS h0 n0 O0 hS V1) hown (ow hw 103 rfl) (ow hw 104 rfl) (ow hw 38 rfl) (ow hw 105 rfl) (by decide) e0 (g := (mkF m 2 #[.val (.ref t), .val (.int (0 : Int32))] [(.ref t), (.int (0 : Int32))])) rfl (by rw [hml]; rfl) (lenOf own_pd__28I_5bB_29V rfl) rfl (W := 0) (by show 2 * 0 + _ ≤ _; exact Nat.le_of_eq rfl) (hb hby d23_2) (by decide) (by decide) (by decide) (by decide)
  obtain ⟨rfl, Nq53, eq53⟩ := hQ53
  have N53 := Fr.app N0 Nq53
  refine oS st53 ?_
  show own_go _ _ _ _ _ _ _ (T53.setTop (mkF m 5 #[.val (.ref t), .val (.int (0 : Int32))] []))
  refine oS (fun _ k => XS.aloadN X53.here hx rfl (hb hby d23_5) rfl rfl k) ?_
  refine oS (fun _ k => XS.iloadN X53.here hx rfl (hb hby d23_6) rfl k) ?_
  show own_go _ _ _ _ _ _ _ (T53.setTop (mkF m 7 #[.val (.ref t), .val (.int (0 : Int32))] [(.int (0 : Int32)), (.ref t)]))
  obtain ⟨v54, T54, L54, X54, hQ54, st54⟩ := own_callS X53 hx hZ (argsL := [(.ref t), (.int (0 : Int32))]) (rest := []) (rm_gc_2_0 l Z a0 hw t k c0 c1 zC vS h0 n0 O0 hS V1 hc0) hown (ow hw 97 rfl) (ow hw 98 rfl) (ow hw 38 rfl) (ow hw 99 rfl) (by decide) eq53 (g := (mkF m 7 #[.val (.ref t), .val (.int (0 : Int32))] [(.int (0 : Int32)), (.ref t)])) rfl (by rw [hml]; rfl) (lenOf own_pd__28_5bBI_29C rfl) rfl (W := 0) (by show 2 * 0 + _ ≤ _; exact Nat.le_of_eq rfl) (hb hby d23_7) (by decide) (by decide) (by decide) (by decide)
  obtain ⟨rfl, Nq54, eq54⟩ := hQ54
  have N54 := Fr.app N53 Nq54
  refine oS st54 ?_
  show own_go _ _ _ _ _ _ _ (T54.setTop (mkF m 10 #[.val (.ref t), .val (.int (0 : Int32))] [(.int c0)]))
  exact own_retN X54 hx hlk (t := .char) hret (by simp) (StrChars.narrow_ch hc0.1 hc0.2) (hb hby d23_10) (by decide) (by decide) (⟨rfl, N54, eq54⟩)
theorem own_ef_rm_chL_2_0 (m : MethodId) (a1 : Addr) : entryFrame m #[(.ref a1), (.int (0 : Int32))] 2 = mkF m 0 #[.val (.ref a1), .val (.int (0 : Int32))] [] := by first | (simp [entryFrame, mkF, argsToLocals, Value.category]; done) | rfl
set_option maxRecDepth 65536 in
set_option maxHeartbeats 40000000 in
theorem rm_chL_2_0 (l : Launch) (Z : State) (a0 : Array Value) (hw : ∀ d ∈ tables_1, d.before a0 Z = true) (a1 t : Addr) (k : ClassId) (c0 c1 : Int32) (zC : Int32) (vS : Value) (h0 : Heap) (n0 : Nat) (O0 : Old Z n0 h0) (hS : own_S Z zC vS) (E_a1 : Exa Z h0 a1 "java/lang/String") (F1 : Fld Z h0 a1 "java/lang/String" "value" "[B" (.ref t)) (F2 : Fld Z h0 a1 "java/lang/String" "coder" "B" (.int (0 : Int32))) (V1 : Arv Z h0 t k .byte (2 : Int32) [(.int (c0.toInt8.toInt32)), (.int (c1.toInt8.toInt32))] (.int (0 : Int32))) (hc0 : own_ch c0) (hl : ¬ (255 : Int32) < c0) :
    own_Met l Z (⟨"java/lang/String", "charAt", "(I)C"⟩ : MethodName) jdk_42_method_56_code 2 (some .char) [] ({ frames := 4, cells := 0, slots := 0, locals := 64 } : Room) #[(.ref a1), (.int (0 : Int32))] h0 (fun v h L => v = some (.int c0) ∧ Fr n0 L ∧ h = h0) := by
  refine own_body own_pn_13 ?_
  intro p e s m below meth c s₁ hx hby hml hown hnm hret hlk X0 hZ e0
  replace hown : s.vm.findClass "java/lang/String" = some m.cls := hown
  have N0 := Fr.nil n0
  have K0 := Keep.refl h0 []
  refine oS (fun _ k => castTop (own_ef_rm_chL_2_0 m a1) k) ?_
  show own_go _ _ _ _ _ _ _ (s₁.setTop (mkF m 0 #[.val (.ref a1), .val (.int (0 : Int32))] []))
  refine oS (fun _ k => XS.aloadN X0.here hx rfl (hb hby d13_0) rfl rfl k) ?_
  show own_go _ _ _ _ _ _ _ (s₁.setTop (mkF m 1 #[.val (.ref a1), .val (.int (0 : Int32))] [(.ref a1)]))
  obtain ⟨v55, T55, L55, X55, hQ55, st55⟩ := own_callV X0 hx hZ (argsL := []) (rest := []) (rm_isLatin1_0 l Z a0 hw a1 zC vS h0 n0 O0 hS F2) hown (ow hw 64 rfl) (ow hw 65 rfl) (notFace_of_selects (args := #[]) (mvT hZ (ow hw 67 rfl))) (ow hw 67 rfl) (ow hw 66 rfl) (ow hw 6 rfl) (ow hw 68 rfl) (by decide) e0 E_a1 (g := (mkF m 1 #[.val (.ref a1), .val (.int (0 : Int32))] [(.ref a1)])) rfl (by rw [hml]; rfl) (lenOf own_pd__28_29Z rfl) rfl (W := 0) (by show 2 * 0 + _ ≤ _; exact Nat.le_of_eq rfl) (hb hby d13_1) (by decide) (by decide) (by decide) (by decide)
  obtain ⟨rfl, Nq55, eq55⟩ := hQ55
  have N55 := Fr.app N0 Nq55
  refine oS st55 ?_
  show own_go _ _ _ _ _ _ _ (T55.setTop (mkF m 4 #[.val (.ref a1), .val (.int (0 : Int32))] [(.int (1 : Int32))]))
  refine oS (fun _ k => XS.ifNo X55.here hx rfl (hb hby d13_4) rfl (by decide) k) ?_
  refine oS (fun _ k => XS.aloadN X55.here hx rfl (hb hby d13_7) rfl rfl k) ?_
  show own_go _ _ _ _ _ _ _ (T55.setTop (mkF m 8 #[.val (.ref a1), .val (.int (0 : Int32))] [(.ref a1)]))
  obtain ⟨T56, X56, e56, st56⟩ := getF X55 hx hZ hown (host := "") (Or.inl (ow hw 24 rfl)) Via.refl eq55 F1 (g := (mkF m 8 #[.val (.ref a1), .val (.int (0 : Int32))] [(.ref a1)])) rfl rfl (hb hby d13_8)
  refine oS st56 ?_
  show own_go _ _ _ _ _ _ _ (T56.setTop (mkF m 11 #[.val (.ref a1), .val (.int (0 : Int32))] [(.ref t)]))
  refine oS (fun _ k => XS.iloadN X56.here hx rfl (hb hby d13_11) rfl k) ?_
  show own_go _ _ _ _ _ _ _ (T56.setTop (mkF m 12 #[.val (.ref a1), .val (.int (0 : Int32))] [(.int (0 : Int32)), (.ref t)]))
  obtain ⟨v57, T57, L57, X57, hQ57, st57⟩ := own_callS X56 hx hZ (argsL := [(.ref t), (.int (0 : Int32))]) (rest := []) (rm_lch_2_0 l Z a0 hw t k c0 c1 zC vS h0 n0 O0 hS V1 hc0 hl) hown (ow hw 69 rfl) (ow hw 70 rfl) (ow hw 71 rfl) (ow hw 72 rfl) (by decide) e56 (g := (mkF m 12 #[.val (.ref a1), .val (.int (0 : Int32))] [(.int (0 : Int32)), (.ref t)])) rfl (by rw [hml]; rfl) (lenOf own_pd__28_5bBI_29C rfl) rfl (W := 0) (by show 2 * 0 + _ ≤ _; exact Nat.le_of_eq rfl) (hb hby d13_12) (by decide) (by decide) (by decide) (by decide)
  obtain ⟨rfl, Nq57, eq57⟩ := hQ57
  have N57 := Fr.app N55 Nq57
  refine oS st57 ?_
  show own_go _ _ _ _ _ _ _ (T57.setTop (mkF m 15 #[.val (.ref a1), .val (.int (0 : Int32))] [(.int c0)]))
  exact own_retN X57 hx hlk (t := .char) hret (by simp) (StrChars.narrow_ch hc0.1 hc0.2) (hb hby d13_15) (by decide) (by decide) (⟨rfl, N57, eq57⟩)
theorem own_ef_rm_chW_2_0 (m : MethodId) (a1 : Addr) : entryFrame m #[(.ref a1), (.int (0 : Int32))] 2 = mkF m 0 #[.val (.ref a1), .val (.int (0 : Int32))] [] := by first | (simp [entryFrame, mkF, argsToLocals, Value.category]; done) | rfl
set_option maxRecDepth 65536 in
set_option maxHeartbeats 40000000 in
theorem rm_chW_2_0 (l : Launch) (Z : State) (a0 : Array Value) (hw : ∀ d ∈ tables_1, d.before a0 Z = true) (a1 t : Addr) (k : ClassId) (c0 c1 : Int32) (zC : Int32) (vS : Value) (h0 : Heap) (n0 : Nat) (O0 : Old Z n0 h0) (hS : own_S Z zC vS) (E_a1 : Exa Z h0 a1 "java/lang/String") (F1 : Fld Z h0 a1 "java/lang/String" "value" "[B" (.ref t)) (F2 : Fld Z h0 a1 "java/lang/String" "coder" "B" (.int (1 : Int32))) (V1 : Arv Z h0 t k .byte (4 : Int32) [(.int (c0.toInt8.toInt32)), (.int ((c0 >>> ((8 : Int32) &&& 31)).toInt8.toInt32)), (.int (c1.toInt8.toInt32)), (.int ((c1 >>> ((8 : Int32) &&& 31)).toInt8.toInt32))] (.int (0 : Int32))) (hc0 : own_ch c0) :
    own_Met l Z (⟨"java/lang/String", "charAt", "(I)C"⟩ : MethodName) jdk_42_method_56_code 2 (some .char) [] ({ frames := 4, cells := 0, slots := 0, locals := 64 } : Room) #[(.ref a1), (.int (0 : Int32))] h0 (fun v h L => v = some (.int c0) ∧ Fr n0 L ∧ h = h0) := by
  refine own_body own_pn_13 ?_
  intro p e s m below meth c s₁ hx hby hml hown hnm hret hlk X0 hZ e0
  replace hown : s.vm.findClass "java/lang/String" = some m.cls := hown
  have N0 := Fr.nil n0
  have K0 := Keep.refl h0 []
  refine oS (fun _ k => castTop (own_ef_rm_chW_2_0 m a1) k) ?_
  show own_go _ _ _ _ _ _ _ (s₁.setTop (mkF m 0 #[.val (.ref a1), .val (.int (0 : Int32))] []))
  refine oS (fun _ k => XS.aloadN X0.here hx rfl (hb hby d13_0) rfl rfl k) ?_
  show own_go _ _ _ _ _ _ _ (s₁.setTop (mkF m 1 #[.val (.ref a1), .val (.int (0 : Int32))] [(.ref a1)]))
  obtain ⟨v58, T58, L58, X58, hQ58, st58⟩ := own_callV X0 hx hZ (argsL := []) (rest := []) (rm_isLatin1_1 l Z a0 hw a1 zC vS h0 n0 O0 hS F2) hown (ow hw 64 rfl) (ow hw 65 rfl) (notFace_of_selects (args := #[]) (mvT hZ (ow hw 67 rfl))) (ow hw 67 rfl) (ow hw 66 rfl) (ow hw 6 rfl) (ow hw 68 rfl) (by decide) e0 E_a1 (g := (mkF m 1 #[.val (.ref a1), .val (.int (0 : Int32))] [(.ref a1)])) rfl (by rw [hml]; rfl) (lenOf own_pd__28_29Z rfl) rfl (W := 0) (by show 2 * 0 + _ ≤ _; exact Nat.le_of_eq rfl) (hb hby d13_1) (by decide) (by decide) (by decide) (by decide)
  obtain ⟨rfl, Nq58, eq58⟩ := hQ58
  have N58 := Fr.app N0 Nq58
  refine oS st58 ?_
  show own_go _ _ _ _ _ _ _ (T58.setTop (mkF m 4 #[.val (.ref a1), .val (.int (0 : Int32))] [(.int (0 : Int32))]))
  refine oS (fun _ k => XS.ifYes X58.here hx rfl (pc0 := 4) (pc' := 16) rfl (hb hby d13_4) rfl (by decide) (by decide) (by decide) k) ?_
  refine oS (fun _ k => XS.aloadN X58.here hx rfl (hb hby d13_16) rfl rfl k) ?_
  show own_go _ _ _ _ _ _ _ (T58.setTop (mkF m 17 #[.val (.ref a1), .val (.int (0 : Int32))] [(.ref a1)]))
  obtain ⟨T59, X59, e59, st59⟩ := getF X58 hx hZ hown (host := "") (Or.inl (ow hw 24 rfl)) Via.refl eq58 F1 (g := (mkF m 17 #[.val (.ref a1), .val (.int (0 : Int32))] [(.ref a1)])) rfl rfl (hb hby d13_17)
  refine oS st59 ?_
  show own_go _ _ _ _ _ _ _ (T59.setTop (mkF m 20 #[.val (.ref a1), .val (.int (0 : Int32))] [(.ref t)]))
  refine oS (fun _ k => XS.iloadN X59.here hx rfl (hb hby d13_20) rfl k) ?_
  show own_go _ _ _ _ _ _ _ (T59.setTop (mkF m 21 #[.val (.ref a1), .val (.int (0 : Int32))] [(.int (0 : Int32)), (.ref t)]))
  obtain ⟨v60, T60, L60, X60, hQ60, st60⟩ := own_callS X59 hx hZ (argsL := [(.ref t), (.int (0 : Int32))]) (rest := []) (rm_uch_2_0 l Z a0 hw t k c0 c1 zC vS h0 n0 O0 hS V1 hc0) hown (ow hw 100 rfl) (ow hw 101 rfl) (ow hw 38 rfl) (ow hw 102 rfl) (by decide) e59 (g := (mkF m 21 #[.val (.ref a1), .val (.int (0 : Int32))] [(.int (0 : Int32)), (.ref t)])) rfl (by rw [hml]; rfl) (lenOf own_pd__28_5bBI_29C rfl) rfl (W := 0) (by show 2 * 0 + _ ≤ _; exact Nat.le_of_eq rfl) (hb hby d13_21) (by decide) (by decide) (by decide) (by decide)
  obtain ⟨rfl, Nq60, eq60⟩ := hQ60
  have N60 := Fr.app N58 Nq60
  refine oS st60 ?_
  show own_go _ _ _ _ _ _ _ (T60.setTop (mkF m 24 #[.val (.ref a1), .val (.int (0 : Int32))] [(.int c0)]))
  exact own_retN X60 hx hlk (t := .char) hret (by simp) (StrChars.narrow_ch hc0.1 hc0.2) (hb hby d13_24) (by decide) (by decide) (⟨rfl, N60, eq60⟩)
theorem own_ef_rm_lch_2_1 (m : MethodId) (t : Addr) : entryFrame m #[(.ref t), (.int (1 : Int32))] 2 = mkF m 0 #[.val (.ref t), .val (.int (1 : Int32))] [] := by first | (simp [entryFrame, mkF, argsToLocals, Value.category]; done) | rfl
set_option maxRecDepth 65536 in
set_option maxHeartbeats 40000000 in
theorem rm_lch_2_1 (l : Launch) (Z : State) (a0 : Array Value) (hw : ∀ d ∈ tables_1, d.before a0 Z = true) (t : Addr) (k : ClassId) (c0 c1 : Int32) (zC : Int32) (vS : Value) (h0 : Heap) (n0 : Nat) (O0 : Old Z n0 h0) (hS : own_S Z zC vS) (V1 : Arv Z h0 t k .byte (2 : Int32) [(.int (c0.toInt8.toInt32)), (.int (c1.toInt8.toInt32))] (.int (0 : Int32))) (hc1 : own_ch c1) (hl : ¬ (255 : Int32) < c1) :
    own_Met l Z (⟨"java/lang/StringLatin1", "charAt", "([BI)C"⟩ : MethodName) jdk_43_method_2_code 2 (some .char) [] ({ frames := 2, cells := 0, slots := 0, locals := 32 } : Room) #[(.ref t), (.int (1 : Int32))] h0 (fun v h L => v = some (.int c1) ∧ Fr n0 L ∧ h = h0) := by
  refine own_body own_pn_15 ?_
  intro p e s m below meth c s₁ hx hby hml hown hnm hret hlk X0 hZ e0
  replace hown : s.vm.findClass "java/lang/StringLatin1" = some m.cls := hown
  have N0 := Fr.nil n0
  have K0 := Keep.refl h0 []
  refine oS (fun _ k => castTop (own_ef_rm_lch_2_1 m t) k) ?_
  show own_go _ _ _ _ _ _ _ (s₁.setTop (mkF m 0 #[.val (.ref t), .val (.int (1 : Int32))] []))
  refine oS (fun _ k => XS.iloadN X0.here hx rfl (hb hby d15_0) rfl k) ?_
  refine oS (fun _ k => XS.aloadN X0.here hx rfl (hb hby d15_1) rfl rfl k) ?_
  show own_go _ _ _ _ _ _ _ (s₁.setTop (mkF m 2 #[.val (.ref t), .val (.int (1 : Int32))] [(.ref t), (.int (1 : Int32))]))
  refine oS (own_len X0 hx hZ e0 V1 (g := (mkF m 2 #[.val (.ref t), .val (.int (1 : Int32))] [(.ref t), (.int (1 : Int32))])) rfl rfl (hb hby d15_2)) ?_
  show own_go _ _ _ _ _ _ _ (s₁.setTop (mkF m 3 #[.val (.ref t), .val (.int (1 : Int32))] [(.int (2 : Int32)), (.int (1 : Int32))]))
  obtain ⟨v61, T61, L61, X61, hQ61, st61⟩ := own_callS X0 hx hZ (argsL := [(.int (1 : Int32)), (.int (2 : Int32))]) (rest := []) (rm_cki l Z a0 hw (1 : Int32) (2 : Int32) zC vS h0 n0 O0 hS (by decide) (by decide)) hown (ow hw 73 rfl) (ow hw 74 rfl) (ow hw 6 rfl) (ow hw 75 rfl) (by decide) e0 (g := (mkF m 3 #[.val (.ref t), .val (.int (1 : Int32))] [(.int (2 : Int32)), (.int (1 : Int32))])) rfl (by rw [hml]; rfl) (lenOf own_pd__28II_29V rfl) rfl (W := 0) (by show 2 * 0 + _ ≤ _; exact Nat.le_of_eq rfl) (hb hby d15_3) (by decide) (by decide) (by decide) (by decide)
  obtain ⟨rfl, Nq61, eq61⟩ := hQ61
  have N61 := Fr.app N0 Nq61
  refine oS st61 ?_
  show own_go _ _ _ _ _ _ _ (T61.setTop (mkF m 6 #[.val (.ref t), .val (.int (1 : Int32))] []))
  refine oS (fun _ k => XS.aloadN X61.here hx rfl (hb hby d15_6) rfl rfl k) ?_
  refine oS (fun _ k => XS.iloadN X61.here hx rfl (hb hby d15_7) rfl k) ?_
  show own_go _ _ _ _ _ _ _ (T61.setTop (mkF m 8 #[.val (.ref t), .val (.int (1 : Int32))] [(.int (1 : Int32)), (.ref t)]))
  refine oS (own_getB X61 hx hZ eq61 V1 (j := (1 : Int32)) (by decide) (v := (.int (c1.toInt8.toInt32))) rfl (g := (mkF m 8 #[.val (.ref t), .val (.int (1 : Int32))] [(.int (1 : Int32)), (.ref t)])) rfl rfl (hb hby d15_8)) ?_
  show own_go _ _ _ _ _ _ _ (T61.setTop (mkF m 9 #[.val (.ref t), .val (.int (1 : Int32))] [(.int (c1.toInt8.toInt32))]))
  refine oS (fun _ k => XS.sipush X61.here hx rfl (hb hby d15_9) k) ?_
  refine oS (fun _ k => XS.iand X61.here hx rfl (hb hby d15_12) rfl k) ?_
  refine oS (fun _ k => XS.i2c X61.here hx rfl (hb hby d15_13) rfl k) ?_
  show own_go _ _ _ _ _ _ _ (T61.setTop (mkF m 14 #[.val (.ref t), .val (.int (1 : Int32))] [(.int (((c1.toInt8.toInt32) &&& (255 : Int32)).toUInt32.toUInt16.toUInt32.toInt32))]))
  have cq : (((c1.toInt8.toInt32) &&& (255 : Int32)).toUInt32.toUInt16.toUInt32.toInt32) = c1 := StrChars.chr8_lo8 hc1.1 hl
  rw [cq]
  show own_go _ _ _ _ _ _ _ (T61.setTop (mkF m 14 #[.val (.ref t), .val (.int (1 : Int32))] [(.int c1)]))
  exact own_retN X61 hx hlk (t := .char) hret (by simp) (StrChars.narrow_ch hc1.1 hc1.2) (hb hby d15_14) (by decide) (by decide) (⟨rfl, N61, eq61⟩)
theorem own_ef_rm_uck_2_1 (m : MethodId) (t : Addr) : entryFrame m #[(.int (1 : Int32)), (.ref t)] 2 = mkF m 0 #[.val (.int (1 : Int32)), .val (.ref t)] [] := by first | (simp [entryFrame, mkF, argsToLocals, Value.category]; done) | rfl
set_option maxRecDepth 65536 in
set_option maxHeartbeats 40000000 in
theorem rm_uck_2_1 (l : Launch) (Z : State) (a0 : Array Value) (hw : ∀ d ∈ tables_1, d.before a0 Z = true) (t : Addr) (k : ClassId) (vs : List Value) (zC : Int32) (vS : Value) (h0 : Heap) (n0 : Nat) (O0 : Old Z n0 h0) (hS : own_S Z zC vS) (V1 : Arv Z h0 t k .byte (4 : Int32) vs (.int (0 : Int32))) :
    own_Met l Z (⟨"java/lang/StringUTF16", "checkIndex", "(I[B)V"⟩ : MethodName) jdk_52_method_91_code 2 none [] ({ frames := 2, cells := 0, slots := 0, locals := 32 } : Room) #[(.int (1 : Int32)), (.ref t)] h0 (fun v h L => v = none ∧ Fr n0 L ∧ h = h0) := by
  refine own_body own_pn_24 ?_
  intro p e s m below meth c s₁ hx hby hml hown hnm hret hlk X0 hZ e0
  replace hown : s.vm.findClass "java/lang/StringUTF16" = some m.cls := hown
  have N0 := Fr.nil n0
  have K0 := Keep.refl h0 []
  refine oS (fun _ k => castTop (own_ef_rm_uck_2_1 m t) k) ?_
  show own_go _ _ _ _ _ _ _ (s₁.setTop (mkF m 0 #[.val (.int (1 : Int32)), .val (.ref t)] []))
  refine oS (fun _ k => XS.iloadN X0.here hx rfl (hb hby d24_0) rfl k) ?_
  refine oS (fun _ k => XS.aloadN X0.here hx rfl (hb hby d24_1) rfl rfl k) ?_
  show own_go _ _ _ _ _ _ _ (s₁.setTop (mkF m 2 #[.val (.int (1 : Int32)), .val (.ref t)] [(.ref t), (.int (1 : Int32))]))
  obtain ⟨v62, T62, L62, X62, hQ62, st62⟩ := own_callS X0 hx hZ (argsL := [(.ref t)]) (rest := [(.int (1 : Int32))]) (rm_ulen_2 l Z a0 hw t k vs h0 n0 O0 V1) hown (ow hw 106 rfl) (ow hw 107 rfl) (ow hw 38 rfl) (ow hw 108 rfl) (by decide) e0 (g := (mkF m 2 #[.val (.int (1 : Int32)), .val (.ref t)] [(.ref t), (.int (1 : Int32))])) rfl (by rw [hml]; rfl) (lenOf own_pd__28_5bB_29I rfl) rfl (W := 1) (by show 2 * 0 + _ ≤ _; exact Nat.le_of_eq rfl) (hb hby d24_2) (by decide) (by decide) (by decide) (by decide)
  obtain ⟨rfl, Nq62, eq62⟩ := hQ62
  have N62 := Fr.app N0 Nq62
  refine oS st62 ?_
  show own_go _ _ _ _ _ _ _ (T62.setTop (mkF m 5 #[.val (.int (1 : Int32)), .val (.ref t)] [(.int (2 : Int32)), (.int (1 : Int32))]))
  obtain ⟨v63, T63, L63, X63, hQ63, st63⟩ := own_callS X62 hx hZ (argsL := [(.int (1 : Int32)), (.int (2 : Int32))]) (rest := []) (rm_cki l Z a0 hw (1 : Int32) (2 : Int32) zC vS h0 n0 O0 hS (by decide) (by decide)) hown (ow hw 109 rfl) (ow hw 74 rfl) (ow hw 6 rfl) (ow hw 75 rfl) (by decide) eq62 (g := (mkF m 5 #[.val (.int (1 : Int32)), .val (.ref t)] [(.int (2 : Int32)), (.int (1 : Int32))])) rfl (by rw [hml]; rfl) (lenOf own_pd__28II_29V rfl) rfl (W := 0) (by show 2 * 0 + _ ≤ _; exact Nat.le_of_eq rfl) (hb hby d24_5) (by decide) (by decide) (by decide) (by decide)
  obtain ⟨rfl, Nq63, eq63⟩ := hQ63
  have N63 := Fr.app N62 Nq63
  refine oS st63 ?_
  show own_go _ _ _ _ _ _ _ (T63.setTop (mkF m 8 #[.val (.int (1 : Int32)), .val (.ref t)] []))
  exact own_ret0 X63 hx hlk hret (hb hby d24_8) (by decide) (by decide) (⟨rfl, N63, eq63⟩)
theorem own_ef_rm_gc_2_1 (m : MethodId) (t : Addr) : entryFrame m #[(.ref t), (.int (1 : Int32))] 2 = mkF m 0 #[.val (.ref t), .val (.int (1 : Int32))] [] := by first | (simp [entryFrame, mkF, argsToLocals, Value.category]; done) | rfl
set_option maxRecDepth 65536 in
set_option maxHeartbeats 40000000 in
theorem rm_gc_2_1 (l : Launch) (Z : State) (a0 : Array Value) (hw : ∀ d ∈ tables_1, d.before a0 Z = true) (t : Addr) (k : ClassId) (c0 c1 : Int32) (zC : Int32) (vS : Value) (h0 : Heap) (n0 : Nat) (O0 : Old Z n0 h0) (hS : own_S Z zC vS) (V1 : Arv Z h0 t k .byte (4 : Int32) [(.int (c0.toInt8.toInt32)), (.int ((c0 >>> ((8 : Int32) &&& 31)).toInt8.toInt32)), (.int (c1.toInt8.toInt32)), (.int ((c1 >>> ((8 : Int32) &&& 31)).toInt8.toInt32))] (.int (0 : Int32))) (hc1 : own_ch c1) :
    own_Met l Z (⟨"java/lang/StringUTF16", "getChar", "([BI)C"⟩ : MethodName) jdk_52_method_5_code 2 (some .char) [] ({ frames := 0, cells := 0, slots := 0, locals := 0 } : Room) #[(.ref t), (.int (1 : Int32))] h0 (fun v h L => v = some (.int c1) ∧ Fr n0 L ∧ h = h0) := by
  refine own_body own_pn_22 ?_
  intro p e s m below meth c s₁ hx hby hml hown hnm hret hlk X0 hZ e0
  replace hown : s.vm.findClass "java/lang/StringUTF16" = some m.cls := hown
  have N0 := Fr.nil n0
  have K0 := Keep.refl h0 []
  refine oS (fun _ k => castTop (own_ef_rm_gc_2_1 m t) k) ?_
  show own_go _ _ _ _ _ _ _ (s₁.setTop (mkF m 0 #[.val (.ref t), .val (.int (1 : Int32))] []))
  obtain ⟨T64, X64, e64, st64⟩ := getS2 X0 hx hZ hown (host := "") (Or.inl (ow hw 94 rfl)) Via.refl e0 (hS.2.2.2.2.1.ext O0.2) (g := (mkF m 0 #[.val (.ref t), .val (.int (1 : Int32))] [])) rfl (hb hby d22_0)
  refine oS st64 ?_
  show own_go _ _ _ _ _ _ _ (T64.setTop (mkF m 3 #[.val (.ref t), .val (.int (1 : Int32))] [(.int (1 : Int32))]))
  refine oS (fun _ k => XS.ifYes X64.here hx rfl (pc0 := 3) (pc' := 28) rfl (hb hby d22_3) rfl (by decide) (by decide) (by decide) k) ?_
  refine oS (fun _ k => XS.iloadN X64.here hx rfl (hb hby d22_28) rfl k) ?_
  refine oS (fun _ k => XS.iconst X64.here hx rfl (hb hby d22_29) k) ?_
  refine oS (fun _ k => XS.ishl X64.here hx rfl (hb hby d22_30) rfl k) ?_
  show own_go _ _ _ _ _ _ _ (T64.setTop (mkF m 31 #[.val (.ref t), .val (.int (1 : Int32))] [(.int ((1 : Int32) <<< ((1 : Int32) &&& 31)))]))
  rw [(by decide : ((1 : Int32) <<< ((1 : Int32) &&& 31)) = (2 : Int32))]
  show own_go _ _ _ _ _ _ _ (T64.setTop (mkF m 31 #[.val (.ref t), .val (.int (1 : Int32))] [(.int (2 : Int32))]))
  refine oS (fun _ k => XS.istoreN X64.here hx rfl (hb hby d22_31) rfl (l' := #[.val (.ref t), .val (.int (2 : Int32))]) rfl k) ?_
  refine oS (fun _ k => XS.aloadN X64.here hx rfl (hb hby d22_32) rfl rfl k) ?_
  refine oS (fun _ k => XS.iloadN X64.here hx rfl (hb hby d22_33) rfl k) ?_
  refine oS (fun _ k => XS.iinc X64.here hx rfl (hb hby d22_34) rfl (l' := #[.val (.ref t), .val (.int (3 : Int32))]) rfl k) ?_
  show own_go _ _ _ _ _ _ _ (T64.setTop (mkF m 37 #[.val (.ref t), .val (.int (3 : Int32))] [(.int (2 : Int32)), (.ref t)]))
  refine oS (own_getB X64 hx hZ e64 V1 (j := (2 : Int32)) (by decide) (v := (.int (c1.toInt8.toInt32))) rfl (g := (mkF m 37 #[.val (.ref t), .val (.int (3 : Int32))] [(.int (2 : Int32)), (.ref t)])) rfl rfl (hb hby d22_37)) ?_
  show own_go _ _ _ _ _ _ _ (T64.setTop (mkF m 38 #[.val (.ref t), .val (.int (3 : Int32))] [(.int (c1.toInt8.toInt32))]))
  refine oS (fun _ k => XS.sipush X64.here hx rfl (hb hby d22_38) k) ?_
  refine oS (fun _ k => XS.iand X64.here hx rfl (hb hby d22_41) rfl k) ?_
  show own_go _ _ _ _ _ _ _ (T64.setTop (mkF m 42 #[.val (.ref t), .val (.int (3 : Int32))] [(.int ((c1.toInt8.toInt32) &&& (255 : Int32)))]))
  obtain ⟨T65, X65, e65, st65⟩ := getS2 X64 hx hZ hown (host := "") (Or.inl (ow hw 95 rfl)) Via.refl e64 (hS.2.2.2.2.2.1.ext O0.2) (g := (mkF m 42 #[.val (.ref t), .val (.int (3 : Int32))] [(.int ((c1.toInt8.toInt32) &&& (255 : Int32)))])) rfl (hb hby d22_42)
  refine oS st65 ?_
  show own_go _ _ _ _ _ _ _ (T65.setTop (mkF m 45 #[.val (.ref t), .val (.int (3 : Int32))] [(.int (0 : Int32)), (.int ((c1.toInt8.toInt32) &&& (255 : Int32)))]))
  refine oS (fun _ k => XS.ishl X65.here hx rfl (hb hby d22_45) rfl k) ?_
  refine oS (fun _ k => XS.aloadN X65.here hx rfl (hb hby d22_46) rfl rfl k) ?_
  refine oS (fun _ k => XS.iloadN X65.here hx rfl (hb hby d22_47) rfl k) ?_
  show own_go _ _ _ _ _ _ _ (T65.setTop (mkF m 48 #[.val (.ref t), .val (.int (3 : Int32))] [(.int (3 : Int32)), (.ref t), (.int (((c1.toInt8.toInt32) &&& (255 : Int32)) <<< ((0 : Int32) &&& 31)))]))
  refine oS (own_getB X65 hx hZ e65 V1 (j := (3 : Int32)) (by decide) (v := (.int ((c1 >>> ((8 : Int32) &&& 31)).toInt8.toInt32))) rfl (g := (mkF m 48 #[.val (.ref t), .val (.int (3 : Int32))] [(.int (3 : Int32)), (.ref t), (.int (((c1.toInt8.toInt32) &&& (255 : Int32)) <<< ((0 : Int32) &&& 31)))])) rfl rfl (hb hby d22_48)) ?_
  show own_go _ _ _ _ _ _ _ (T65.setTop (mkF m 49 #[.val (.ref t), .val (.int (3 : Int32))] [(.int ((c1 >>> ((8 : Int32) &&& 31)).toInt8.toInt32)), (.int (((c1.toInt8.toInt32) &&& (255 : Int32)) <<< ((0 : Int32) &&& 31)))]))
  refine oS (fun _ k => XS.sipush X65.here hx rfl (hb hby d22_49) k) ?_
  refine oS (fun _ k => XS.iand X65.here hx rfl (hb hby d22_52) rfl k) ?_
  show own_go _ _ _ _ _ _ _ (T65.setTop (mkF m 53 #[.val (.ref t), .val (.int (3 : Int32))] [(.int (((c1 >>> ((8 : Int32) &&& 31)).toInt8.toInt32) &&& (255 : Int32))), (.int (((c1.toInt8.toInt32) &&& (255 : Int32)) <<< ((0 : Int32) &&& 31)))]))
  obtain ⟨T66, X66, e66, st66⟩ := getS2 X65 hx hZ hown (host := "") (Or.inl (ow hw 96 rfl)) Via.refl e65 (hS.2.2.2.2.2.2.ext O0.2) (g := (mkF m 53 #[.val (.ref t), .val (.int (3 : Int32))] [(.int (((c1 >>> ((8 : Int32) &&& 31)).toInt8.toInt32) &&& (255 : Int32))), (.int (((c1.toInt8.toInt32) &&& (255 : Int32)) <<< ((0 : Int32) &&& 31)))])) rfl (hb hby d22_53)
  refine oS st66 ?_
  show own_go _ _ _ _ _ _ _ (T66.setTop (mkF m 56 #[.val (.ref t), .val (.int (3 : Int32))] [(.int (8 : Int32)), (.int (((c1 >>> ((8 : Int32) &&& 31)).toInt8.toInt32) &&& (255 : Int32))), (.int (((c1.toInt8.toInt32) &&& (255 : Int32)) <<< ((0 : Int32) &&& 31)))]))
  refine oS (fun _ k => XS.ishl X66.here hx rfl (hb hby d22_56) rfl k) ?_
  refine oS (fun _ k => XS.ior X66.here hx rfl (hb hby d22_57) rfl k) ?_
  refine oS (fun _ k => XS.i2c X66.here hx rfl (hb hby d22_58) rfl k) ?_
  show own_go _ _ _ _ _ _ _ (T66.setTop (mkF m 59 #[.val (.ref t), .val (.int (3 : Int32))] [(.int (((((c1.toInt8.toInt32) &&& (255 : Int32)) <<< ((0 : Int32) &&& 31)) ||| ((((c1 >>> ((8 : Int32) &&& 31)).toInt8.toInt32) &&& (255 : Int32)) <<< ((8 : Int32) &&& 31))).toUInt32.toUInt16.toUInt32.toInt32))]))
  have pq : (((((c1.toInt8.toInt32) &&& (255 : Int32)) <<< ((0 : Int32) &&& 31)) ||| ((((c1 >>> ((8 : Int32) &&& 31)).toInt8.toInt32) &&& (255 : Int32)) <<< ((8 : Int32) &&& 31))).toUInt32.toUInt16.toUInt32.toInt32) = c1 := StrChars.pair_says hc1.1 hc1.2
  rw [pq]
  show own_go _ _ _ _ _ _ _ (T66.setTop (mkF m 59 #[.val (.ref t), .val (.int (3 : Int32))] [(.int c1)]))
  exact own_retN X66 hx hlk (t := .char) hret (by simp) (StrChars.narrow_ch hc1.1 hc1.2) (hb hby d22_59) (by decide) (by decide) (⟨rfl, N0, e66⟩)
theorem own_ef_rm_uch_2_1 (m : MethodId) (t : Addr) : entryFrame m #[(.ref t), (.int (1 : Int32))] 2 = mkF m 0 #[.val (.ref t), .val (.int (1 : Int32))] [] := by first | (simp [entryFrame, mkF, argsToLocals, Value.category]; done) | rfl
set_option maxRecDepth 65536 in
set_option maxHeartbeats 40000000 in
theorem rm_uch_2_1 (l : Launch) (Z : State) (a0 : Array Value) (hw : ∀ d ∈ tables_1, d.before a0 Z = true) (t : Addr) (k : ClassId) (c0 c1 : Int32) (zC : Int32) (vS : Value) (h0 : Heap) (n0 : Nat) (O0 : Old Z n0 h0) (hS : own_S Z zC vS) (V1 : Arv Z h0 t k .byte (4 : Int32) [(.int (c0.toInt8.toInt32)), (.int ((c0 >>> ((8 : Int32) &&& 31)).toInt8.toInt32)), (.int (c1.toInt8.toInt32)), (.int ((c1 >>> ((8 : Int32) &&& 31)).toInt8.toInt32))] (.int (0 : Int32))) (hc1 : own_ch c1) :
    own_Met l Z (⟨"java/lang/StringUTF16", "charAt", "([BI)C"⟩ : MethodName) jdk_52_method_83_code 2 (some .char) [] ({ frames := 3, cells := 0, slots := 0, locals := 48 } : Room) #[(.ref t), (.int (1 : Int32))] h0 (fun v h L => v = some (.int c1) ∧ Fr n0 L ∧ h = h0) := by
  refine own_body own_pn_23 ?_
  intro p e s m below meth c s₁ hx hby hml hown hnm hret hlk X0 hZ e0
  replace hown : s.vm.findClass "java/lang/StringUTF16" = some m.cls := hown
  have N0 := Fr.nil n0
  have K0 := Keep.refl h0 []
  refine oS (fun _ k => castTop (own_ef_rm_uch_2_1 m t) k) ?_
  show own_go _ _ _ _ _ _ _ (s₁.setTop (mkF m 0 #[.val (.ref t), .val (.int (1 : Int32))] []))
  refine oS (fun _ k => XS.iloadN X0.here hx rfl (hb hby d23_0) rfl k) ?_
  refine oS (fun _ k => XS.aloadN X0.here hx rfl (hb hby d23_1) rfl rfl k) ?_
  show own_go _ _ _ _ _ _ _ (s₁.setTop (mkF m 2 #[.val (.ref t), .val (.int (1 : Int32))] [(.ref t), (.int (1 : Int32))]))
  obtain ⟨v67, T67, L67, X67, hQ67, st67⟩ := own_callS X0 hx hZ (argsL := [(.int (1 : Int32)), (.ref t)]) (rest := []) (rm_uck_2_1 l Z a0 hw t k _ zC vS h0 n0 O0 hS V1) hown (ow hw 103 rfl) (ow hw 104 rfl) (ow hw 38 rfl) (ow hw 105 rfl) (by decide) e0 (g := (mkF m 2 #[.val (.ref t), .val (.int (1 : Int32))] [(.ref t), (.int (1 : Int32))])) rfl (by rw [hml]; rfl) (lenOf own_pd__28I_5bB_29V rfl) rfl (W := 0) (by show 2 * 0 + _ ≤ _; exact Nat.le_of_eq rfl) (hb hby d23_2) (by decide) (by decide) (by decide) (by decide)
  obtain ⟨rfl, Nq67, eq67⟩ := hQ67
  have N67 := Fr.app N0 Nq67
  refine oS st67 ?_
  show own_go _ _ _ _ _ _ _ (T67.setTop (mkF m 5 #[.val (.ref t), .val (.int (1 : Int32))] []))
  refine oS (fun _ k => XS.aloadN X67.here hx rfl (hb hby d23_5) rfl rfl k) ?_
  refine oS (fun _ k => XS.iloadN X67.here hx rfl (hb hby d23_6) rfl k) ?_
  show own_go _ _ _ _ _ _ _ (T67.setTop (mkF m 7 #[.val (.ref t), .val (.int (1 : Int32))] [(.int (1 : Int32)), (.ref t)]))
  obtain ⟨v68, T68, L68, X68, hQ68, st68⟩ := own_callS X67 hx hZ (argsL := [(.ref t), (.int (1 : Int32))]) (rest := []) (rm_gc_2_1 l Z a0 hw t k c0 c1 zC vS h0 n0 O0 hS V1 hc1) hown (ow hw 97 rfl) (ow hw 98 rfl) (ow hw 38 rfl) (ow hw 99 rfl) (by decide) eq67 (g := (mkF m 7 #[.val (.ref t), .val (.int (1 : Int32))] [(.int (1 : Int32)), (.ref t)])) rfl (by rw [hml]; rfl) (lenOf own_pd__28_5bBI_29C rfl) rfl (W := 0) (by show 2 * 0 + _ ≤ _; exact Nat.le_of_eq rfl) (hb hby d23_7) (by decide) (by decide) (by decide) (by decide)
  obtain ⟨rfl, Nq68, eq68⟩ := hQ68
  have N68 := Fr.app N67 Nq68
  refine oS st68 ?_
  show own_go _ _ _ _ _ _ _ (T68.setTop (mkF m 10 #[.val (.ref t), .val (.int (1 : Int32))] [(.int c1)]))
  exact own_retN X68 hx hlk (t := .char) hret (by simp) (StrChars.narrow_ch hc1.1 hc1.2) (hb hby d23_10) (by decide) (by decide) (⟨rfl, N68, eq68⟩)
theorem own_ef_rm_chL_2_1 (m : MethodId) (a1 : Addr) : entryFrame m #[(.ref a1), (.int (1 : Int32))] 2 = mkF m 0 #[.val (.ref a1), .val (.int (1 : Int32))] [] := by first | (simp [entryFrame, mkF, argsToLocals, Value.category]; done) | rfl
set_option maxRecDepth 65536 in
set_option maxHeartbeats 40000000 in
theorem rm_chL_2_1 (l : Launch) (Z : State) (a0 : Array Value) (hw : ∀ d ∈ tables_1, d.before a0 Z = true) (a1 t : Addr) (k : ClassId) (c0 c1 : Int32) (zC : Int32) (vS : Value) (h0 : Heap) (n0 : Nat) (O0 : Old Z n0 h0) (hS : own_S Z zC vS) (E_a1 : Exa Z h0 a1 "java/lang/String") (F1 : Fld Z h0 a1 "java/lang/String" "value" "[B" (.ref t)) (F2 : Fld Z h0 a1 "java/lang/String" "coder" "B" (.int (0 : Int32))) (V1 : Arv Z h0 t k .byte (2 : Int32) [(.int (c0.toInt8.toInt32)), (.int (c1.toInt8.toInt32))] (.int (0 : Int32))) (hc1 : own_ch c1) (hl : ¬ (255 : Int32) < c1) :
    own_Met l Z (⟨"java/lang/String", "charAt", "(I)C"⟩ : MethodName) jdk_42_method_56_code 2 (some .char) [] ({ frames := 4, cells := 0, slots := 0, locals := 64 } : Room) #[(.ref a1), (.int (1 : Int32))] h0 (fun v h L => v = some (.int c1) ∧ Fr n0 L ∧ h = h0) := by
  refine own_body own_pn_13 ?_
  intro p e s m below meth c s₁ hx hby hml hown hnm hret hlk X0 hZ e0
  replace hown : s.vm.findClass "java/lang/String" = some m.cls := hown
  have N0 := Fr.nil n0
  have K0 := Keep.refl h0 []
  refine oS (fun _ k => castTop (own_ef_rm_chL_2_1 m a1) k) ?_
  show own_go _ _ _ _ _ _ _ (s₁.setTop (mkF m 0 #[.val (.ref a1), .val (.int (1 : Int32))] []))
  refine oS (fun _ k => XS.aloadN X0.here hx rfl (hb hby d13_0) rfl rfl k) ?_
  show own_go _ _ _ _ _ _ _ (s₁.setTop (mkF m 1 #[.val (.ref a1), .val (.int (1 : Int32))] [(.ref a1)]))
  obtain ⟨v69, T69, L69, X69, hQ69, st69⟩ := own_callV X0 hx hZ (argsL := []) (rest := []) (rm_isLatin1_0 l Z a0 hw a1 zC vS h0 n0 O0 hS F2) hown (ow hw 64 rfl) (ow hw 65 rfl) (notFace_of_selects (args := #[]) (mvT hZ (ow hw 67 rfl))) (ow hw 67 rfl) (ow hw 66 rfl) (ow hw 6 rfl) (ow hw 68 rfl) (by decide) e0 E_a1 (g := (mkF m 1 #[.val (.ref a1), .val (.int (1 : Int32))] [(.ref a1)])) rfl (by rw [hml]; rfl) (lenOf own_pd__28_29Z rfl) rfl (W := 0) (by show 2 * 0 + _ ≤ _; exact Nat.le_of_eq rfl) (hb hby d13_1) (by decide) (by decide) (by decide) (by decide)
  obtain ⟨rfl, Nq69, eq69⟩ := hQ69
  have N69 := Fr.app N0 Nq69
  refine oS st69 ?_
  show own_go _ _ _ _ _ _ _ (T69.setTop (mkF m 4 #[.val (.ref a1), .val (.int (1 : Int32))] [(.int (1 : Int32))]))
  refine oS (fun _ k => XS.ifNo X69.here hx rfl (hb hby d13_4) rfl (by decide) k) ?_
  refine oS (fun _ k => XS.aloadN X69.here hx rfl (hb hby d13_7) rfl rfl k) ?_
  show own_go _ _ _ _ _ _ _ (T69.setTop (mkF m 8 #[.val (.ref a1), .val (.int (1 : Int32))] [(.ref a1)]))
  obtain ⟨T70, X70, e70, st70⟩ := getF X69 hx hZ hown (host := "") (Or.inl (ow hw 24 rfl)) Via.refl eq69 F1 (g := (mkF m 8 #[.val (.ref a1), .val (.int (1 : Int32))] [(.ref a1)])) rfl rfl (hb hby d13_8)
  refine oS st70 ?_
  show own_go _ _ _ _ _ _ _ (T70.setTop (mkF m 11 #[.val (.ref a1), .val (.int (1 : Int32))] [(.ref t)]))
  refine oS (fun _ k => XS.iloadN X70.here hx rfl (hb hby d13_11) rfl k) ?_
  show own_go _ _ _ _ _ _ _ (T70.setTop (mkF m 12 #[.val (.ref a1), .val (.int (1 : Int32))] [(.int (1 : Int32)), (.ref t)]))
  obtain ⟨v71, T71, L71, X71, hQ71, st71⟩ := own_callS X70 hx hZ (argsL := [(.ref t), (.int (1 : Int32))]) (rest := []) (rm_lch_2_1 l Z a0 hw t k c0 c1 zC vS h0 n0 O0 hS V1 hc1 hl) hown (ow hw 69 rfl) (ow hw 70 rfl) (ow hw 71 rfl) (ow hw 72 rfl) (by decide) e70 (g := (mkF m 12 #[.val (.ref a1), .val (.int (1 : Int32))] [(.int (1 : Int32)), (.ref t)])) rfl (by rw [hml]; rfl) (lenOf own_pd__28_5bBI_29C rfl) rfl (W := 0) (by show 2 * 0 + _ ≤ _; exact Nat.le_of_eq rfl) (hb hby d13_12) (by decide) (by decide) (by decide) (by decide)
  obtain ⟨rfl, Nq71, eq71⟩ := hQ71
  have N71 := Fr.app N69 Nq71
  refine oS st71 ?_
  show own_go _ _ _ _ _ _ _ (T71.setTop (mkF m 15 #[.val (.ref a1), .val (.int (1 : Int32))] [(.int c1)]))
  exact own_retN X71 hx hlk (t := .char) hret (by simp) (StrChars.narrow_ch hc1.1 hc1.2) (hb hby d13_15) (by decide) (by decide) (⟨rfl, N71, eq71⟩)
theorem own_ef_rm_chW_2_1 (m : MethodId) (a1 : Addr) : entryFrame m #[(.ref a1), (.int (1 : Int32))] 2 = mkF m 0 #[.val (.ref a1), .val (.int (1 : Int32))] [] := by first | (simp [entryFrame, mkF, argsToLocals, Value.category]; done) | rfl
set_option maxRecDepth 65536 in
set_option maxHeartbeats 40000000 in
theorem rm_chW_2_1 (l : Launch) (Z : State) (a0 : Array Value) (hw : ∀ d ∈ tables_1, d.before a0 Z = true) (a1 t : Addr) (k : ClassId) (c0 c1 : Int32) (zC : Int32) (vS : Value) (h0 : Heap) (n0 : Nat) (O0 : Old Z n0 h0) (hS : own_S Z zC vS) (E_a1 : Exa Z h0 a1 "java/lang/String") (F1 : Fld Z h0 a1 "java/lang/String" "value" "[B" (.ref t)) (F2 : Fld Z h0 a1 "java/lang/String" "coder" "B" (.int (1 : Int32))) (V1 : Arv Z h0 t k .byte (4 : Int32) [(.int (c0.toInt8.toInt32)), (.int ((c0 >>> ((8 : Int32) &&& 31)).toInt8.toInt32)), (.int (c1.toInt8.toInt32)), (.int ((c1 >>> ((8 : Int32) &&& 31)).toInt8.toInt32))] (.int (0 : Int32))) (hc1 : own_ch c1) :
    own_Met l Z (⟨"java/lang/String", "charAt", "(I)C"⟩ : MethodName) jdk_42_method_56_code 2 (some .char) [] ({ frames := 4, cells := 0, slots := 0, locals := 64 } : Room) #[(.ref a1), (.int (1 : Int32))] h0 (fun v h L => v = some (.int c1) ∧ Fr n0 L ∧ h = h0) := by
  refine own_body own_pn_13 ?_
  intro p e s m below meth c s₁ hx hby hml hown hnm hret hlk X0 hZ e0
  replace hown : s.vm.findClass "java/lang/String" = some m.cls := hown
  have N0 := Fr.nil n0
  have K0 := Keep.refl h0 []
  refine oS (fun _ k => castTop (own_ef_rm_chW_2_1 m a1) k) ?_
  show own_go _ _ _ _ _ _ _ (s₁.setTop (mkF m 0 #[.val (.ref a1), .val (.int (1 : Int32))] []))
  refine oS (fun _ k => XS.aloadN X0.here hx rfl (hb hby d13_0) rfl rfl k) ?_
  show own_go _ _ _ _ _ _ _ (s₁.setTop (mkF m 1 #[.val (.ref a1), .val (.int (1 : Int32))] [(.ref a1)]))
  obtain ⟨v72, T72, L72, X72, hQ72, st72⟩ := own_callV X0 hx hZ (argsL := []) (rest := []) (rm_isLatin1_1 l Z a0 hw a1 zC vS h0 n0 O0 hS F2) hown (ow hw 64 rfl) (ow hw 65 rfl) (notFace_of_selects (args := #[]) (mvT hZ (ow hw 67 rfl))) (ow hw 67 rfl) (ow hw 66 rfl) (ow hw 6 rfl) (ow hw 68 rfl) (by decide) e0 E_a1 (g := (mkF m 1 #[.val (.ref a1), .val (.int (1 : Int32))] [(.ref a1)])) rfl (by rw [hml]; rfl) (lenOf own_pd__28_29Z rfl) rfl (W := 0) (by show 2 * 0 + _ ≤ _; exact Nat.le_of_eq rfl) (hb hby d13_1) (by decide) (by decide) (by decide) (by decide)
  obtain ⟨rfl, Nq72, eq72⟩ := hQ72
  have N72 := Fr.app N0 Nq72
  refine oS st72 ?_
  show own_go _ _ _ _ _ _ _ (T72.setTop (mkF m 4 #[.val (.ref a1), .val (.int (1 : Int32))] [(.int (0 : Int32))]))
  refine oS (fun _ k => XS.ifYes X72.here hx rfl (pc0 := 4) (pc' := 16) rfl (hb hby d13_4) rfl (by decide) (by decide) (by decide) k) ?_
  refine oS (fun _ k => XS.aloadN X72.here hx rfl (hb hby d13_16) rfl rfl k) ?_
  show own_go _ _ _ _ _ _ _ (T72.setTop (mkF m 17 #[.val (.ref a1), .val (.int (1 : Int32))] [(.ref a1)]))
  obtain ⟨T73, X73, e73, st73⟩ := getF X72 hx hZ hown (host := "") (Or.inl (ow hw 24 rfl)) Via.refl eq72 F1 (g := (mkF m 17 #[.val (.ref a1), .val (.int (1 : Int32))] [(.ref a1)])) rfl rfl (hb hby d13_17)
  refine oS st73 ?_
  show own_go _ _ _ _ _ _ _ (T73.setTop (mkF m 20 #[.val (.ref a1), .val (.int (1 : Int32))] [(.ref t)]))
  refine oS (fun _ k => XS.iloadN X73.here hx rfl (hb hby d13_20) rfl k) ?_
  show own_go _ _ _ _ _ _ _ (T73.setTop (mkF m 21 #[.val (.ref a1), .val (.int (1 : Int32))] [(.int (1 : Int32)), (.ref t)]))
  obtain ⟨v74, T74, L74, X74, hQ74, st74⟩ := own_callS X73 hx hZ (argsL := [(.ref t), (.int (1 : Int32))]) (rest := []) (rm_uch_2_1 l Z a0 hw t k c0 c1 zC vS h0 n0 O0 hS V1 hc1) hown (ow hw 100 rfl) (ow hw 101 rfl) (ow hw 38 rfl) (ow hw 102 rfl) (by decide) e73 (g := (mkF m 21 #[.val (.ref a1), .val (.int (1 : Int32))] [(.int (1 : Int32)), (.ref t)])) rfl (by rw [hml]; rfl) (lenOf own_pd__28_5bBI_29C rfl) rfl (W := 0) (by show 2 * 0 + _ ≤ _; exact Nat.le_of_eq rfl) (hb hby d13_21) (by decide) (by decide) (by decide) (by decide)
  obtain ⟨rfl, Nq74, eq74⟩ := hQ74
  have N74 := Fr.app N72 Nq74
  refine oS st74 ?_
  show own_go _ _ _ _ _ _ _ (T74.setTop (mkF m 24 #[.val (.ref a1), .val (.int (1 : Int32))] [(.int c1)]))
  exact own_retN X74 hx hlk (t := .char) hret (by simp) (StrChars.narrow_ch hc1.1 hc1.2) (hb hby d13_24) (by decide) (by decide) (⟨rfl, N74, eq74⟩)
theorem own_ef_rm_ulen_3 (m : MethodId) (t : Addr) : entryFrame m #[(.ref t)] 1 = mkF m 0 #[.val (.ref t)] [] := by first | (simp [entryFrame, mkF, argsToLocals, Value.category]; done) | rfl
set_option maxRecDepth 65536 in
set_option maxHeartbeats 40000000 in
theorem rm_ulen_3 (l : Launch) (Z : State) (a0 : Array Value) (hw : ∀ d ∈ tables_1, d.before a0 Z = true) (t : Addr) (k : ClassId) (vs : List Value) (h0 : Heap) (n0 : Nat) (O0 : Old Z n0 h0) (V1 : Arv Z h0 t k .byte (6 : Int32) vs (.int (0 : Int32))) :
    own_Met l Z (⟨"java/lang/StringUTF16", "length", "([B)I"⟩ : MethodName) jdk_52_method_6_code 1 (some .int) [] ({ frames := 0, cells := 0, slots := 0, locals := 0 } : Room) #[(.ref t)] h0 (fun v h L => v = some (.int (3 : Int32)) ∧ Fr n0 L ∧ h = h0) := by
  refine own_body own_pn_25 ?_
  intro p e s m below meth c s₁ hx hby hml hown hnm hret hlk X0 hZ e0
  replace hown : s.vm.findClass "java/lang/StringUTF16" = some m.cls := hown
  have N0 := Fr.nil n0
  have K0 := Keep.refl h0 []
  refine oS (fun _ k => castTop (own_ef_rm_ulen_3 m t) k) ?_
  show own_go _ _ _ _ _ _ _ (s₁.setTop (mkF m 0 #[.val (.ref t)] []))
  refine oS (fun _ k => XS.aloadN X0.here hx rfl (hb hby d25_0) rfl rfl k) ?_
  show own_go _ _ _ _ _ _ _ (s₁.setTop (mkF m 1 #[.val (.ref t)] [(.ref t)]))
  refine oS (own_len X0 hx hZ e0 V1 (g := (mkF m 1 #[.val (.ref t)] [(.ref t)])) rfl rfl (hb hby d25_1)) ?_
  show own_go _ _ _ _ _ _ _ (s₁.setTop (mkF m 2 #[.val (.ref t)] [(.int (6 : Int32))]))
  refine oS (fun _ k => XS.iconst X0.here hx rfl (hb hby d25_2) k) ?_
  refine oS (fun _ k => XS.ishr X0.here hx rfl (hb hby d25_3) rfl k) ?_
  show own_go _ _ _ _ _ _ _ (s₁.setTop (mkF m 4 #[.val (.ref t)] [(.int ((6 : Int32) >>> ((1 : Int32) &&& 31)))]))
  rw [(by decide : ((6 : Int32) >>> ((1 : Int32) &&& 31)) = (3 : Int32))]
  show own_go _ _ _ _ _ _ _ (s₁.setTop (mkF m 4 #[.val (.ref t)] [(.int (3 : Int32))]))
  exact own_retI X0 hx hlk hret (hb hby d25_4) (by decide) (by decide) (⟨rfl, N0, e0⟩)
theorem own_ef_rm_lch_3_0 (m : MethodId) (t : Addr) : entryFrame m #[(.ref t), (.int (0 : Int32))] 2 = mkF m 0 #[.val (.ref t), .val (.int (0 : Int32))] [] := by first | (simp [entryFrame, mkF, argsToLocals, Value.category]; done) | rfl
set_option maxRecDepth 65536 in
set_option maxHeartbeats 40000000 in
theorem rm_lch_3_0 (l : Launch) (Z : State) (a0 : Array Value) (hw : ∀ d ∈ tables_1, d.before a0 Z = true) (t : Addr) (k : ClassId) (c0 c1 c2 : Int32) (zC : Int32) (vS : Value) (h0 : Heap) (n0 : Nat) (O0 : Old Z n0 h0) (hS : own_S Z zC vS) (V1 : Arv Z h0 t k .byte (3 : Int32) [(.int (c0.toInt8.toInt32)), (.int (c1.toInt8.toInt32)), (.int (c2.toInt8.toInt32))] (.int (0 : Int32))) (hc0 : own_ch c0) (hl : ¬ (255 : Int32) < c0) :
    own_Met l Z (⟨"java/lang/StringLatin1", "charAt", "([BI)C"⟩ : MethodName) jdk_43_method_2_code 2 (some .char) [] ({ frames := 2, cells := 0, slots := 0, locals := 32 } : Room) #[(.ref t), (.int (0 : Int32))] h0 (fun v h L => v = some (.int c0) ∧ Fr n0 L ∧ h = h0) := by
  refine own_body own_pn_15 ?_
  intro p e s m below meth c s₁ hx hby hml hown hnm hret hlk X0 hZ e0
  replace hown : s.vm.findClass "java/lang/StringLatin1" = some m.cls := hown
  have N0 := Fr.nil n0
  have K0 := Keep.refl h0 []
  refine oS (fun _ k => castTop (own_ef_rm_lch_3_0 m t) k) ?_
  show own_go _ _ _ _ _ _ _ (s₁.setTop (mkF m 0 #[.val (.ref t), .val (.int (0 : Int32))] []))
  refine oS (fun _ k => XS.iloadN X0.here hx rfl (hb hby d15_0) rfl k) ?_
  refine oS (fun _ k => XS.aloadN X0.here hx rfl (hb hby d15_1) rfl rfl k) ?_
  show own_go _ _ _ _ _ _ _ (s₁.setTop (mkF m 2 #[.val (.ref t), .val (.int (0 : Int32))] [(.ref t), (.int (0 : Int32))]))
  refine oS (own_len X0 hx hZ e0 V1 (g := (mkF m 2 #[.val (.ref t), .val (.int (0 : Int32))] [(.ref t), (.int (0 : Int32))])) rfl rfl (hb hby d15_2)) ?_
  show own_go _ _ _ _ _ _ _ (s₁.setTop (mkF m 3 #[.val (.ref t), .val (.int (0 : Int32))] [(.int (3 : Int32)), (.int (0 : Int32))]))
  obtain ⟨v75, T75, L75, X75, hQ75, st75⟩ := own_callS X0 hx hZ (argsL := [(.int (0 : Int32)), (.int (3 : Int32))]) (rest := []) (rm_cki l Z a0 hw (0 : Int32) (3 : Int32) zC vS h0 n0 O0 hS (by decide) (by decide)) hown (ow hw 73 rfl) (ow hw 74 rfl) (ow hw 6 rfl) (ow hw 75 rfl) (by decide) e0 (g := (mkF m 3 #[.val (.ref t), .val (.int (0 : Int32))] [(.int (3 : Int32)), (.int (0 : Int32))])) rfl (by rw [hml]; rfl) (lenOf own_pd__28II_29V rfl) rfl (W := 0) (by show 2 * 0 + _ ≤ _; exact Nat.le_of_eq rfl) (hb hby d15_3) (by decide) (by decide) (by decide) (by decide)
  obtain ⟨rfl, Nq75, eq75⟩ := hQ75
  have N75 := Fr.app N0 Nq75
  refine oS st75 ?_
  show own_go _ _ _ _ _ _ _ (T75.setTop (mkF m 6 #[.val (.ref t), .val (.int (0 : Int32))] []))
  refine oS (fun _ k => XS.aloadN X75.here hx rfl (hb hby d15_6) rfl rfl k) ?_
  refine oS (fun _ k => XS.iloadN X75.here hx rfl (hb hby d15_7) rfl k) ?_
  show own_go _ _ _ _ _ _ _ (T75.setTop (mkF m 8 #[.val (.ref t), .val (.int (0 : Int32))] [(.int (0 : Int32)), (.ref t)]))
  refine oS (own_getB X75 hx hZ eq75 V1 (j := (0 : Int32)) (by decide) (v := (.int (c0.toInt8.toInt32))) rfl (g := (mkF m 8 #[.val (.ref t), .val (.int (0 : Int32))] [(.int (0 : Int32)), (.ref t)])) rfl rfl (hb hby d15_8)) ?_
  show own_go _ _ _ _ _ _ _ (T75.setTop (mkF m 9 #[.val (.ref t), .val (.int (0 : Int32))] [(.int (c0.toInt8.toInt32))]))
  refine oS (fun _ k => XS.sipush X75.here hx rfl (hb hby d15_9) k) ?_
  refine oS (fun _ k => XS.iand X75.here hx rfl (hb hby d15_12) rfl k) ?_
  refine oS (fun _ k => XS.i2c X75.here hx rfl (hb hby d15_13) rfl k) ?_
  show own_go _ _ _ _ _ _ _ (T75.setTop (mkF m 14 #[.val (.ref t), .val (.int (0 : Int32))] [(.int (((c0.toInt8.toInt32) &&& (255 : Int32)).toUInt32.toUInt16.toUInt32.toInt32))]))
  have cq : (((c0.toInt8.toInt32) &&& (255 : Int32)).toUInt32.toUInt16.toUInt32.toInt32) = c0 := StrChars.chr8_lo8 hc0.1 hl
  rw [cq]
  show own_go _ _ _ _ _ _ _ (T75.setTop (mkF m 14 #[.val (.ref t), .val (.int (0 : Int32))] [(.int c0)]))
  exact own_retN X75 hx hlk (t := .char) hret (by simp) (StrChars.narrow_ch hc0.1 hc0.2) (hb hby d15_14) (by decide) (by decide) (⟨rfl, N75, eq75⟩)
theorem own_ef_rm_uck_3_0 (m : MethodId) (t : Addr) : entryFrame m #[(.int (0 : Int32)), (.ref t)] 2 = mkF m 0 #[.val (.int (0 : Int32)), .val (.ref t)] [] := by first | (simp [entryFrame, mkF, argsToLocals, Value.category]; done) | rfl
set_option maxRecDepth 65536 in
set_option maxHeartbeats 40000000 in
theorem rm_uck_3_0 (l : Launch) (Z : State) (a0 : Array Value) (hw : ∀ d ∈ tables_1, d.before a0 Z = true) (t : Addr) (k : ClassId) (vs : List Value) (zC : Int32) (vS : Value) (h0 : Heap) (n0 : Nat) (O0 : Old Z n0 h0) (hS : own_S Z zC vS) (V1 : Arv Z h0 t k .byte (6 : Int32) vs (.int (0 : Int32))) :
    own_Met l Z (⟨"java/lang/StringUTF16", "checkIndex", "(I[B)V"⟩ : MethodName) jdk_52_method_91_code 2 none [] ({ frames := 2, cells := 0, slots := 0, locals := 32 } : Room) #[(.int (0 : Int32)), (.ref t)] h0 (fun v h L => v = none ∧ Fr n0 L ∧ h = h0) := by
  refine own_body own_pn_24 ?_
  intro p e s m below meth c s₁ hx hby hml hown hnm hret hlk X0 hZ e0
  replace hown : s.vm.findClass "java/lang/StringUTF16" = some m.cls := hown
  have N0 := Fr.nil n0
  have K0 := Keep.refl h0 []
  refine oS (fun _ k => castTop (own_ef_rm_uck_3_0 m t) k) ?_
  show own_go _ _ _ _ _ _ _ (s₁.setTop (mkF m 0 #[.val (.int (0 : Int32)), .val (.ref t)] []))
  refine oS (fun _ k => XS.iloadN X0.here hx rfl (hb hby d24_0) rfl k) ?_
  refine oS (fun _ k => XS.aloadN X0.here hx rfl (hb hby d24_1) rfl rfl k) ?_
  show own_go _ _ _ _ _ _ _ (s₁.setTop (mkF m 2 #[.val (.int (0 : Int32)), .val (.ref t)] [(.ref t), (.int (0 : Int32))]))
  obtain ⟨v76, T76, L76, X76, hQ76, st76⟩ := own_callS X0 hx hZ (argsL := [(.ref t)]) (rest := [(.int (0 : Int32))]) (rm_ulen_3 l Z a0 hw t k vs h0 n0 O0 V1) hown (ow hw 106 rfl) (ow hw 107 rfl) (ow hw 38 rfl) (ow hw 108 rfl) (by decide) e0 (g := (mkF m 2 #[.val (.int (0 : Int32)), .val (.ref t)] [(.ref t), (.int (0 : Int32))])) rfl (by rw [hml]; rfl) (lenOf own_pd__28_5bB_29I rfl) rfl (W := 1) (by show 2 * 0 + _ ≤ _; exact Nat.le_of_eq rfl) (hb hby d24_2) (by decide) (by decide) (by decide) (by decide)
  obtain ⟨rfl, Nq76, eq76⟩ := hQ76
  have N76 := Fr.app N0 Nq76
  refine oS st76 ?_
  show own_go _ _ _ _ _ _ _ (T76.setTop (mkF m 5 #[.val (.int (0 : Int32)), .val (.ref t)] [(.int (3 : Int32)), (.int (0 : Int32))]))
  obtain ⟨v77, T77, L77, X77, hQ77, st77⟩ := own_callS X76 hx hZ (argsL := [(.int (0 : Int32)), (.int (3 : Int32))]) (rest := []) (rm_cki l Z a0 hw (0 : Int32) (3 : Int32) zC vS h0 n0 O0 hS (by decide) (by decide)) hown (ow hw 109 rfl) (ow hw 74 rfl) (ow hw 6 rfl) (ow hw 75 rfl) (by decide) eq76 (g := (mkF m 5 #[.val (.int (0 : Int32)), .val (.ref t)] [(.int (3 : Int32)), (.int (0 : Int32))])) rfl (by rw [hml]; rfl) (lenOf own_pd__28II_29V rfl) rfl (W := 0) (by show 2 * 0 + _ ≤ _; exact Nat.le_of_eq rfl) (hb hby d24_5) (by decide) (by decide) (by decide) (by decide)
  obtain ⟨rfl, Nq77, eq77⟩ := hQ77
  have N77 := Fr.app N76 Nq77
  refine oS st77 ?_
  show own_go _ _ _ _ _ _ _ (T77.setTop (mkF m 8 #[.val (.int (0 : Int32)), .val (.ref t)] []))
  exact own_ret0 X77 hx hlk hret (hb hby d24_8) (by decide) (by decide) (⟨rfl, N77, eq77⟩)
theorem own_ef_rm_gc_3_0 (m : MethodId) (t : Addr) : entryFrame m #[(.ref t), (.int (0 : Int32))] 2 = mkF m 0 #[.val (.ref t), .val (.int (0 : Int32))] [] := by first | (simp [entryFrame, mkF, argsToLocals, Value.category]; done) | rfl
set_option maxRecDepth 65536 in
set_option maxHeartbeats 40000000 in
theorem rm_gc_3_0 (l : Launch) (Z : State) (a0 : Array Value) (hw : ∀ d ∈ tables_1, d.before a0 Z = true) (t : Addr) (k : ClassId) (c0 c1 c2 : Int32) (zC : Int32) (vS : Value) (h0 : Heap) (n0 : Nat) (O0 : Old Z n0 h0) (hS : own_S Z zC vS) (V1 : Arv Z h0 t k .byte (6 : Int32) [(.int (c0.toInt8.toInt32)), (.int ((c0 >>> ((8 : Int32) &&& 31)).toInt8.toInt32)), (.int (c1.toInt8.toInt32)), (.int ((c1 >>> ((8 : Int32) &&& 31)).toInt8.toInt32)), (.int (c2.toInt8.toInt32)), (.int ((c2 >>> ((8 : Int32) &&& 31)).toInt8.toInt32))] (.int (0 : Int32))) (hc0 : own_ch c0) :
    own_Met l Z (⟨"java/lang/StringUTF16", "getChar", "([BI)C"⟩ : MethodName) jdk_52_method_5_code 2 (some .char) [] ({ frames := 0, cells := 0, slots := 0, locals := 0 } : Room) #[(.ref t), (.int (0 : Int32))] h0 (fun v h L => v = some (.int c0) ∧ Fr n0 L ∧ h = h0) := by
  refine own_body own_pn_22 ?_
  intro p e s m below meth c s₁ hx hby hml hown hnm hret hlk X0 hZ e0
  replace hown : s.vm.findClass "java/lang/StringUTF16" = some m.cls := hown
  have N0 := Fr.nil n0
  have K0 := Keep.refl h0 []
  refine oS (fun _ k => castTop (own_ef_rm_gc_3_0 m t) k) ?_
  show own_go _ _ _ _ _ _ _ (s₁.setTop (mkF m 0 #[.val (.ref t), .val (.int (0 : Int32))] []))
  obtain ⟨T78, X78, e78, st78⟩ := getS2 X0 hx hZ hown (host := "") (Or.inl (ow hw 94 rfl)) Via.refl e0 (hS.2.2.2.2.1.ext O0.2) (g := (mkF m 0 #[.val (.ref t), .val (.int (0 : Int32))] [])) rfl (hb hby d22_0)
  refine oS st78 ?_
  show own_go _ _ _ _ _ _ _ (T78.setTop (mkF m 3 #[.val (.ref t), .val (.int (0 : Int32))] [(.int (1 : Int32))]))
  refine oS (fun _ k => XS.ifYes X78.here hx rfl (pc0 := 3) (pc' := 28) rfl (hb hby d22_3) rfl (by decide) (by decide) (by decide) k) ?_
  refine oS (fun _ k => XS.iloadN X78.here hx rfl (hb hby d22_28) rfl k) ?_
  refine oS (fun _ k => XS.iconst X78.here hx rfl (hb hby d22_29) k) ?_
  refine oS (fun _ k => XS.ishl X78.here hx rfl (hb hby d22_30) rfl k) ?_
  show own_go _ _ _ _ _ _ _ (T78.setTop (mkF m 31 #[.val (.ref t), .val (.int (0 : Int32))] [(.int ((0 : Int32) <<< ((1 : Int32) &&& 31)))]))
  rw [(by decide : ((0 : Int32) <<< ((1 : Int32) &&& 31)) = (0 : Int32))]
  show own_go _ _ _ _ _ _ _ (T78.setTop (mkF m 31 #[.val (.ref t), .val (.int (0 : Int32))] [(.int (0 : Int32))]))
  refine oS (fun _ k => XS.istoreN X78.here hx rfl (hb hby d22_31) rfl (l' := #[.val (.ref t), .val (.int (0 : Int32))]) rfl k) ?_
  refine oS (fun _ k => XS.aloadN X78.here hx rfl (hb hby d22_32) rfl rfl k) ?_
  refine oS (fun _ k => XS.iloadN X78.here hx rfl (hb hby d22_33) rfl k) ?_
  refine oS (fun _ k => XS.iinc X78.here hx rfl (hb hby d22_34) rfl (l' := #[.val (.ref t), .val (.int (1 : Int32))]) rfl k) ?_
  show own_go _ _ _ _ _ _ _ (T78.setTop (mkF m 37 #[.val (.ref t), .val (.int (1 : Int32))] [(.int (0 : Int32)), (.ref t)]))
  refine oS (own_getB X78 hx hZ e78 V1 (j := (0 : Int32)) (by decide) (v := (.int (c0.toInt8.toInt32))) rfl (g := (mkF m 37 #[.val (.ref t), .val (.int (1 : Int32))] [(.int (0 : Int32)), (.ref t)])) rfl rfl (hb hby d22_37)) ?_
  show own_go _ _ _ _ _ _ _ (T78.setTop (mkF m 38 #[.val (.ref t), .val (.int (1 : Int32))] [(.int (c0.toInt8.toInt32))]))
  refine oS (fun _ k => XS.sipush X78.here hx rfl (hb hby d22_38) k) ?_
  refine oS (fun _ k => XS.iand X78.here hx rfl (hb hby d22_41) rfl k) ?_
  show own_go _ _ _ _ _ _ _ (T78.setTop (mkF m 42 #[.val (.ref t), .val (.int (1 : Int32))] [(.int ((c0.toInt8.toInt32) &&& (255 : Int32)))]))
  obtain ⟨T79, X79, e79, st79⟩ := getS2 X78 hx hZ hown (host := "") (Or.inl (ow hw 95 rfl)) Via.refl e78 (hS.2.2.2.2.2.1.ext O0.2) (g := (mkF m 42 #[.val (.ref t), .val (.int (1 : Int32))] [(.int ((c0.toInt8.toInt32) &&& (255 : Int32)))])) rfl (hb hby d22_42)
  refine oS st79 ?_
  show own_go _ _ _ _ _ _ _ (T79.setTop (mkF m 45 #[.val (.ref t), .val (.int (1 : Int32))] [(.int (0 : Int32)), (.int ((c0.toInt8.toInt32) &&& (255 : Int32)))]))
  refine oS (fun _ k => XS.ishl X79.here hx rfl (hb hby d22_45) rfl k) ?_
  refine oS (fun _ k => XS.aloadN X79.here hx rfl (hb hby d22_46) rfl rfl k) ?_
  refine oS (fun _ k => XS.iloadN X79.here hx rfl (hb hby d22_47) rfl k) ?_
  show own_go _ _ _ _ _ _ _ (T79.setTop (mkF m 48 #[.val (.ref t), .val (.int (1 : Int32))] [(.int (1 : Int32)), (.ref t), (.int (((c0.toInt8.toInt32) &&& (255 : Int32)) <<< ((0 : Int32) &&& 31)))]))
  refine oS (own_getB X79 hx hZ e79 V1 (j := (1 : Int32)) (by decide) (v := (.int ((c0 >>> ((8 : Int32) &&& 31)).toInt8.toInt32))) rfl (g := (mkF m 48 #[.val (.ref t), .val (.int (1 : Int32))] [(.int (1 : Int32)), (.ref t), (.int (((c0.toInt8.toInt32) &&& (255 : Int32)) <<< ((0 : Int32) &&& 31)))])) rfl rfl (hb hby d22_48)) ?_
  show own_go _ _ _ _ _ _ _ (T79.setTop (mkF m 49 #[.val (.ref t), .val (.int (1 : Int32))] [(.int ((c0 >>> ((8 : Int32) &&& 31)).toInt8.toInt32)), (.int (((c0.toInt8.toInt32) &&& (255 : Int32)) <<< ((0 : Int32) &&& 31)))]))
  refine oS (fun _ k => XS.sipush X79.here hx rfl (hb hby d22_49) k) ?_
  refine oS (fun _ k => XS.iand X79.here hx rfl (hb hby d22_52) rfl k) ?_
  show own_go _ _ _ _ _ _ _ (T79.setTop (mkF m 53 #[.val (.ref t), .val (.int (1 : Int32))] [(.int (((c0 >>> ((8 : Int32) &&& 31)).toInt8.toInt32) &&& (255 : Int32))), (.int (((c0.toInt8.toInt32) &&& (255 : Int32)) <<< ((0 : Int32) &&& 31)))]))
  obtain ⟨T80, X80, e80, st80⟩ := getS2 X79 hx hZ hown (host := "") (Or.inl (ow hw 96 rfl)) Via.refl e79 (hS.2.2.2.2.2.2.ext O0.2) (g := (mkF m 53 #[.val (.ref t), .val (.int (1 : Int32))] [(.int (((c0 >>> ((8 : Int32) &&& 31)).toInt8.toInt32) &&& (255 : Int32))), (.int (((c0.toInt8.toInt32) &&& (255 : Int32)) <<< ((0 : Int32) &&& 31)))])) rfl (hb hby d22_53)
  refine oS st80 ?_
  show own_go _ _ _ _ _ _ _ (T80.setTop (mkF m 56 #[.val (.ref t), .val (.int (1 : Int32))] [(.int (8 : Int32)), (.int (((c0 >>> ((8 : Int32) &&& 31)).toInt8.toInt32) &&& (255 : Int32))), (.int (((c0.toInt8.toInt32) &&& (255 : Int32)) <<< ((0 : Int32) &&& 31)))]))
  refine oS (fun _ k => XS.ishl X80.here hx rfl (hb hby d22_56) rfl k) ?_
  refine oS (fun _ k => XS.ior X80.here hx rfl (hb hby d22_57) rfl k) ?_
  refine oS (fun _ k => XS.i2c X80.here hx rfl (hb hby d22_58) rfl k) ?_
  show own_go _ _ _ _ _ _ _ (T80.setTop (mkF m 59 #[.val (.ref t), .val (.int (1 : Int32))] [(.int (((((c0.toInt8.toInt32) &&& (255 : Int32)) <<< ((0 : Int32) &&& 31)) ||| ((((c0 >>> ((8 : Int32) &&& 31)).toInt8.toInt32) &&& (255 : Int32)) <<< ((8 : Int32) &&& 31))).toUInt32.toUInt16.toUInt32.toInt32))]))
  have pq : (((((c0.toInt8.toInt32) &&& (255 : Int32)) <<< ((0 : Int32) &&& 31)) ||| ((((c0 >>> ((8 : Int32) &&& 31)).toInt8.toInt32) &&& (255 : Int32)) <<< ((8 : Int32) &&& 31))).toUInt32.toUInt16.toUInt32.toInt32) = c0 := StrChars.pair_says hc0.1 hc0.2
  rw [pq]
  show own_go _ _ _ _ _ _ _ (T80.setTop (mkF m 59 #[.val (.ref t), .val (.int (1 : Int32))] [(.int c0)]))
  exact own_retN X80 hx hlk (t := .char) hret (by simp) (StrChars.narrow_ch hc0.1 hc0.2) (hb hby d22_59) (by decide) (by decide) (⟨rfl, N0, e80⟩)
theorem own_ef_rm_uch_3_0 (m : MethodId) (t : Addr) : entryFrame m #[(.ref t), (.int (0 : Int32))] 2 = mkF m 0 #[.val (.ref t), .val (.int (0 : Int32))] [] := by first | (simp [entryFrame, mkF, argsToLocals, Value.category]; done) | rfl
set_option maxRecDepth 65536 in
set_option maxHeartbeats 40000000 in
theorem rm_uch_3_0 (l : Launch) (Z : State) (a0 : Array Value) (hw : ∀ d ∈ tables_1, d.before a0 Z = true) (t : Addr) (k : ClassId) (c0 c1 c2 : Int32) (zC : Int32) (vS : Value) (h0 : Heap) (n0 : Nat) (O0 : Old Z n0 h0) (hS : own_S Z zC vS) (V1 : Arv Z h0 t k .byte (6 : Int32) [(.int (c0.toInt8.toInt32)), (.int ((c0 >>> ((8 : Int32) &&& 31)).toInt8.toInt32)), (.int (c1.toInt8.toInt32)), (.int ((c1 >>> ((8 : Int32) &&& 31)).toInt8.toInt32)), (.int (c2.toInt8.toInt32)), (.int ((c2 >>> ((8 : Int32) &&& 31)).toInt8.toInt32))] (.int (0 : Int32))) (hc0 : own_ch c0) :
    own_Met l Z (⟨"java/lang/StringUTF16", "charAt", "([BI)C"⟩ : MethodName) jdk_52_method_83_code 2 (some .char) [] ({ frames := 3, cells := 0, slots := 0, locals := 48 } : Room) #[(.ref t), (.int (0 : Int32))] h0 (fun v h L => v = some (.int c0) ∧ Fr n0 L ∧ h = h0) := by
  refine own_body own_pn_23 ?_
  intro p e s m below meth c s₁ hx hby hml hown hnm hret hlk X0 hZ e0
  replace hown : s.vm.findClass "java/lang/StringUTF16" = some m.cls := hown
  have N0 := Fr.nil n0
  have K0 := Keep.refl h0 []
  refine oS (fun _ k => castTop (own_ef_rm_uch_3_0 m t) k) ?_
  show own_go _ _ _ _ _ _ _ (s₁.setTop (mkF m 0 #[.val (.ref t), .val (.int (0 : Int32))] []))
  refine oS (fun _ k => XS.iloadN X0.here hx rfl (hb hby d23_0) rfl k) ?_
  refine oS (fun _ k => XS.aloadN X0.here hx rfl (hb hby d23_1) rfl rfl k) ?_
  show own_go _ _ _ _ _ _ _ (s₁.setTop (mkF m 2 #[.val (.ref t), .val (.int (0 : Int32))] [(.ref t), (.int (0 : Int32))]))
  obtain ⟨v81, T81, L81, X81, hQ81, st81⟩ := own_callS X0 hx hZ (argsL := [(.int (0 : Int32)), (.ref t)]) (rest := []) (rm_uck_3_0 l Z a0 hw t k _ zC vS h0 n0 O0 hS V1) hown (ow hw 103 rfl) (ow hw 104 rfl) (ow hw 38 rfl) (ow hw 105 rfl) (by decide) e0 (g := (mkF m 2 #[.val (.ref t), .val (.int (0 : Int32))] [(.ref t), (.int (0 : Int32))])) rfl (by rw [hml]; rfl) (lenOf own_pd__28I_5bB_29V rfl) rfl (W := 0) (by show 2 * 0 + _ ≤ _; exact Nat.le_of_eq rfl) (hb hby d23_2) (by decide) (by decide) (by decide) (by decide)
  obtain ⟨rfl, Nq81, eq81⟩ := hQ81
  have N81 := Fr.app N0 Nq81
  refine oS st81 ?_
  show own_go _ _ _ _ _ _ _ (T81.setTop (mkF m 5 #[.val (.ref t), .val (.int (0 : Int32))] []))
  refine oS (fun _ k => XS.aloadN X81.here hx rfl (hb hby d23_5) rfl rfl k) ?_
  refine oS (fun _ k => XS.iloadN X81.here hx rfl (hb hby d23_6) rfl k) ?_
  show own_go _ _ _ _ _ _ _ (T81.setTop (mkF m 7 #[.val (.ref t), .val (.int (0 : Int32))] [(.int (0 : Int32)), (.ref t)]))
  obtain ⟨v82, T82, L82, X82, hQ82, st82⟩ := own_callS X81 hx hZ (argsL := [(.ref t), (.int (0 : Int32))]) (rest := []) (rm_gc_3_0 l Z a0 hw t k c0 c1 c2 zC vS h0 n0 O0 hS V1 hc0) hown (ow hw 97 rfl) (ow hw 98 rfl) (ow hw 38 rfl) (ow hw 99 rfl) (by decide) eq81 (g := (mkF m 7 #[.val (.ref t), .val (.int (0 : Int32))] [(.int (0 : Int32)), (.ref t)])) rfl (by rw [hml]; rfl) (lenOf own_pd__28_5bBI_29C rfl) rfl (W := 0) (by show 2 * 0 + _ ≤ _; exact Nat.le_of_eq rfl) (hb hby d23_7) (by decide) (by decide) (by decide) (by decide)
  obtain ⟨rfl, Nq82, eq82⟩ := hQ82
  have N82 := Fr.app N81 Nq82
  refine oS st82 ?_
  show own_go _ _ _ _ _ _ _ (T82.setTop (mkF m 10 #[.val (.ref t), .val (.int (0 : Int32))] [(.int c0)]))
  exact own_retN X82 hx hlk (t := .char) hret (by simp) (StrChars.narrow_ch hc0.1 hc0.2) (hb hby d23_10) (by decide) (by decide) (⟨rfl, N82, eq82⟩)
theorem own_ef_rm_chL_3_0 (m : MethodId) (a1 : Addr) : entryFrame m #[(.ref a1), (.int (0 : Int32))] 2 = mkF m 0 #[.val (.ref a1), .val (.int (0 : Int32))] [] := by first | (simp [entryFrame, mkF, argsToLocals, Value.category]; done) | rfl
set_option maxRecDepth 65536 in
set_option maxHeartbeats 40000000 in
theorem rm_chL_3_0 (l : Launch) (Z : State) (a0 : Array Value) (hw : ∀ d ∈ tables_1, d.before a0 Z = true) (a1 t : Addr) (k : ClassId) (c0 c1 c2 : Int32) (zC : Int32) (vS : Value) (h0 : Heap) (n0 : Nat) (O0 : Old Z n0 h0) (hS : own_S Z zC vS) (E_a1 : Exa Z h0 a1 "java/lang/String") (F1 : Fld Z h0 a1 "java/lang/String" "value" "[B" (.ref t)) (F2 : Fld Z h0 a1 "java/lang/String" "coder" "B" (.int (0 : Int32))) (V1 : Arv Z h0 t k .byte (3 : Int32) [(.int (c0.toInt8.toInt32)), (.int (c1.toInt8.toInt32)), (.int (c2.toInt8.toInt32))] (.int (0 : Int32))) (hc0 : own_ch c0) (hl : ¬ (255 : Int32) < c0) :
    own_Met l Z (⟨"java/lang/String", "charAt", "(I)C"⟩ : MethodName) jdk_42_method_56_code 2 (some .char) [] ({ frames := 4, cells := 0, slots := 0, locals := 64 } : Room) #[(.ref a1), (.int (0 : Int32))] h0 (fun v h L => v = some (.int c0) ∧ Fr n0 L ∧ h = h0) := by
  refine own_body own_pn_13 ?_
  intro p e s m below meth c s₁ hx hby hml hown hnm hret hlk X0 hZ e0
  replace hown : s.vm.findClass "java/lang/String" = some m.cls := hown
  have N0 := Fr.nil n0
  have K0 := Keep.refl h0 []
  refine oS (fun _ k => castTop (own_ef_rm_chL_3_0 m a1) k) ?_
  show own_go _ _ _ _ _ _ _ (s₁.setTop (mkF m 0 #[.val (.ref a1), .val (.int (0 : Int32))] []))
  refine oS (fun _ k => XS.aloadN X0.here hx rfl (hb hby d13_0) rfl rfl k) ?_
  show own_go _ _ _ _ _ _ _ (s₁.setTop (mkF m 1 #[.val (.ref a1), .val (.int (0 : Int32))] [(.ref a1)]))
  obtain ⟨v83, T83, L83, X83, hQ83, st83⟩ := own_callV X0 hx hZ (argsL := []) (rest := []) (rm_isLatin1_0 l Z a0 hw a1 zC vS h0 n0 O0 hS F2) hown (ow hw 64 rfl) (ow hw 65 rfl) (notFace_of_selects (args := #[]) (mvT hZ (ow hw 67 rfl))) (ow hw 67 rfl) (ow hw 66 rfl) (ow hw 6 rfl) (ow hw 68 rfl) (by decide) e0 E_a1 (g := (mkF m 1 #[.val (.ref a1), .val (.int (0 : Int32))] [(.ref a1)])) rfl (by rw [hml]; rfl) (lenOf own_pd__28_29Z rfl) rfl (W := 0) (by show 2 * 0 + _ ≤ _; exact Nat.le_of_eq rfl) (hb hby d13_1) (by decide) (by decide) (by decide) (by decide)
  obtain ⟨rfl, Nq83, eq83⟩ := hQ83
  have N83 := Fr.app N0 Nq83
  refine oS st83 ?_
  show own_go _ _ _ _ _ _ _ (T83.setTop (mkF m 4 #[.val (.ref a1), .val (.int (0 : Int32))] [(.int (1 : Int32))]))
  refine oS (fun _ k => XS.ifNo X83.here hx rfl (hb hby d13_4) rfl (by decide) k) ?_
  refine oS (fun _ k => XS.aloadN X83.here hx rfl (hb hby d13_7) rfl rfl k) ?_
  show own_go _ _ _ _ _ _ _ (T83.setTop (mkF m 8 #[.val (.ref a1), .val (.int (0 : Int32))] [(.ref a1)]))
  obtain ⟨T84, X84, e84, st84⟩ := getF X83 hx hZ hown (host := "") (Or.inl (ow hw 24 rfl)) Via.refl eq83 F1 (g := (mkF m 8 #[.val (.ref a1), .val (.int (0 : Int32))] [(.ref a1)])) rfl rfl (hb hby d13_8)
  refine oS st84 ?_
  show own_go _ _ _ _ _ _ _ (T84.setTop (mkF m 11 #[.val (.ref a1), .val (.int (0 : Int32))] [(.ref t)]))
  refine oS (fun _ k => XS.iloadN X84.here hx rfl (hb hby d13_11) rfl k) ?_
  show own_go _ _ _ _ _ _ _ (T84.setTop (mkF m 12 #[.val (.ref a1), .val (.int (0 : Int32))] [(.int (0 : Int32)), (.ref t)]))
  obtain ⟨v85, T85, L85, X85, hQ85, st85⟩ := own_callS X84 hx hZ (argsL := [(.ref t), (.int (0 : Int32))]) (rest := []) (rm_lch_3_0 l Z a0 hw t k c0 c1 c2 zC vS h0 n0 O0 hS V1 hc0 hl) hown (ow hw 69 rfl) (ow hw 70 rfl) (ow hw 71 rfl) (ow hw 72 rfl) (by decide) e84 (g := (mkF m 12 #[.val (.ref a1), .val (.int (0 : Int32))] [(.int (0 : Int32)), (.ref t)])) rfl (by rw [hml]; rfl) (lenOf own_pd__28_5bBI_29C rfl) rfl (W := 0) (by show 2 * 0 + _ ≤ _; exact Nat.le_of_eq rfl) (hb hby d13_12) (by decide) (by decide) (by decide) (by decide)
  obtain ⟨rfl, Nq85, eq85⟩ := hQ85
  have N85 := Fr.app N83 Nq85
  refine oS st85 ?_
  show own_go _ _ _ _ _ _ _ (T85.setTop (mkF m 15 #[.val (.ref a1), .val (.int (0 : Int32))] [(.int c0)]))
  exact own_retN X85 hx hlk (t := .char) hret (by simp) (StrChars.narrow_ch hc0.1 hc0.2) (hb hby d13_15) (by decide) (by decide) (⟨rfl, N85, eq85⟩)
theorem own_ef_rm_chW_3_0 (m : MethodId) (a1 : Addr) : entryFrame m #[(.ref a1), (.int (0 : Int32))] 2 = mkF m 0 #[.val (.ref a1), .val (.int (0 : Int32))] [] := by first | (simp [entryFrame, mkF, argsToLocals, Value.category]; done) | rfl
set_option maxRecDepth 65536 in
set_option maxHeartbeats 40000000 in
theorem rm_chW_3_0 (l : Launch) (Z : State) (a0 : Array Value) (hw : ∀ d ∈ tables_1, d.before a0 Z = true) (a1 t : Addr) (k : ClassId) (c0 c1 c2 : Int32) (zC : Int32) (vS : Value) (h0 : Heap) (n0 : Nat) (O0 : Old Z n0 h0) (hS : own_S Z zC vS) (E_a1 : Exa Z h0 a1 "java/lang/String") (F1 : Fld Z h0 a1 "java/lang/String" "value" "[B" (.ref t)) (F2 : Fld Z h0 a1 "java/lang/String" "coder" "B" (.int (1 : Int32))) (V1 : Arv Z h0 t k .byte (6 : Int32) [(.int (c0.toInt8.toInt32)), (.int ((c0 >>> ((8 : Int32) &&& 31)).toInt8.toInt32)), (.int (c1.toInt8.toInt32)), (.int ((c1 >>> ((8 : Int32) &&& 31)).toInt8.toInt32)), (.int (c2.toInt8.toInt32)), (.int ((c2 >>> ((8 : Int32) &&& 31)).toInt8.toInt32))] (.int (0 : Int32))) (hc0 : own_ch c0) :
    own_Met l Z (⟨"java/lang/String", "charAt", "(I)C"⟩ : MethodName) jdk_42_method_56_code 2 (some .char) [] ({ frames := 4, cells := 0, slots := 0, locals := 64 } : Room) #[(.ref a1), (.int (0 : Int32))] h0 (fun v h L => v = some (.int c0) ∧ Fr n0 L ∧ h = h0) := by
  refine own_body own_pn_13 ?_
  intro p e s m below meth c s₁ hx hby hml hown hnm hret hlk X0 hZ e0
  replace hown : s.vm.findClass "java/lang/String" = some m.cls := hown
  have N0 := Fr.nil n0
  have K0 := Keep.refl h0 []
  refine oS (fun _ k => castTop (own_ef_rm_chW_3_0 m a1) k) ?_
  show own_go _ _ _ _ _ _ _ (s₁.setTop (mkF m 0 #[.val (.ref a1), .val (.int (0 : Int32))] []))
  refine oS (fun _ k => XS.aloadN X0.here hx rfl (hb hby d13_0) rfl rfl k) ?_
  show own_go _ _ _ _ _ _ _ (s₁.setTop (mkF m 1 #[.val (.ref a1), .val (.int (0 : Int32))] [(.ref a1)]))
  obtain ⟨v86, T86, L86, X86, hQ86, st86⟩ := own_callV X0 hx hZ (argsL := []) (rest := []) (rm_isLatin1_1 l Z a0 hw a1 zC vS h0 n0 O0 hS F2) hown (ow hw 64 rfl) (ow hw 65 rfl) (notFace_of_selects (args := #[]) (mvT hZ (ow hw 67 rfl))) (ow hw 67 rfl) (ow hw 66 rfl) (ow hw 6 rfl) (ow hw 68 rfl) (by decide) e0 E_a1 (g := (mkF m 1 #[.val (.ref a1), .val (.int (0 : Int32))] [(.ref a1)])) rfl (by rw [hml]; rfl) (lenOf own_pd__28_29Z rfl) rfl (W := 0) (by show 2 * 0 + _ ≤ _; exact Nat.le_of_eq rfl) (hb hby d13_1) (by decide) (by decide) (by decide) (by decide)
  obtain ⟨rfl, Nq86, eq86⟩ := hQ86
  have N86 := Fr.app N0 Nq86
  refine oS st86 ?_
  show own_go _ _ _ _ _ _ _ (T86.setTop (mkF m 4 #[.val (.ref a1), .val (.int (0 : Int32))] [(.int (0 : Int32))]))
  refine oS (fun _ k => XS.ifYes X86.here hx rfl (pc0 := 4) (pc' := 16) rfl (hb hby d13_4) rfl (by decide) (by decide) (by decide) k) ?_
  refine oS (fun _ k => XS.aloadN X86.here hx rfl (hb hby d13_16) rfl rfl k) ?_
  show own_go _ _ _ _ _ _ _ (T86.setTop (mkF m 17 #[.val (.ref a1), .val (.int (0 : Int32))] [(.ref a1)]))
  obtain ⟨T87, X87, e87, st87⟩ := getF X86 hx hZ hown (host := "") (Or.inl (ow hw 24 rfl)) Via.refl eq86 F1 (g := (mkF m 17 #[.val (.ref a1), .val (.int (0 : Int32))] [(.ref a1)])) rfl rfl (hb hby d13_17)
  refine oS st87 ?_
  show own_go _ _ _ _ _ _ _ (T87.setTop (mkF m 20 #[.val (.ref a1), .val (.int (0 : Int32))] [(.ref t)]))
  refine oS (fun _ k => XS.iloadN X87.here hx rfl (hb hby d13_20) rfl k) ?_
  show own_go _ _ _ _ _ _ _ (T87.setTop (mkF m 21 #[.val (.ref a1), .val (.int (0 : Int32))] [(.int (0 : Int32)), (.ref t)]))
  obtain ⟨v88, T88, L88, X88, hQ88, st88⟩ := own_callS X87 hx hZ (argsL := [(.ref t), (.int (0 : Int32))]) (rest := []) (rm_uch_3_0 l Z a0 hw t k c0 c1 c2 zC vS h0 n0 O0 hS V1 hc0) hown (ow hw 100 rfl) (ow hw 101 rfl) (ow hw 38 rfl) (ow hw 102 rfl) (by decide) e87 (g := (mkF m 21 #[.val (.ref a1), .val (.int (0 : Int32))] [(.int (0 : Int32)), (.ref t)])) rfl (by rw [hml]; rfl) (lenOf own_pd__28_5bBI_29C rfl) rfl (W := 0) (by show 2 * 0 + _ ≤ _; exact Nat.le_of_eq rfl) (hb hby d13_21) (by decide) (by decide) (by decide) (by decide)
  obtain ⟨rfl, Nq88, eq88⟩ := hQ88
  have N88 := Fr.app N86 Nq88
  refine oS st88 ?_
  show own_go _ _ _ _ _ _ _ (T88.setTop (mkF m 24 #[.val (.ref a1), .val (.int (0 : Int32))] [(.int c0)]))
  exact own_retN X88 hx hlk (t := .char) hret (by simp) (StrChars.narrow_ch hc0.1 hc0.2) (hb hby d13_24) (by decide) (by decide) (⟨rfl, N88, eq88⟩)
theorem own_ef_rm_lch_3_1 (m : MethodId) (t : Addr) : entryFrame m #[(.ref t), (.int (1 : Int32))] 2 = mkF m 0 #[.val (.ref t), .val (.int (1 : Int32))] [] := by first | (simp [entryFrame, mkF, argsToLocals, Value.category]; done) | rfl
set_option maxRecDepth 65536 in
set_option maxHeartbeats 40000000 in
theorem rm_lch_3_1 (l : Launch) (Z : State) (a0 : Array Value) (hw : ∀ d ∈ tables_1, d.before a0 Z = true) (t : Addr) (k : ClassId) (c0 c1 c2 : Int32) (zC : Int32) (vS : Value) (h0 : Heap) (n0 : Nat) (O0 : Old Z n0 h0) (hS : own_S Z zC vS) (V1 : Arv Z h0 t k .byte (3 : Int32) [(.int (c0.toInt8.toInt32)), (.int (c1.toInt8.toInt32)), (.int (c2.toInt8.toInt32))] (.int (0 : Int32))) (hc1 : own_ch c1) (hl : ¬ (255 : Int32) < c1) :
    own_Met l Z (⟨"java/lang/StringLatin1", "charAt", "([BI)C"⟩ : MethodName) jdk_43_method_2_code 2 (some .char) [] ({ frames := 2, cells := 0, slots := 0, locals := 32 } : Room) #[(.ref t), (.int (1 : Int32))] h0 (fun v h L => v = some (.int c1) ∧ Fr n0 L ∧ h = h0) := by
  refine own_body own_pn_15 ?_
  intro p e s m below meth c s₁ hx hby hml hown hnm hret hlk X0 hZ e0
  replace hown : s.vm.findClass "java/lang/StringLatin1" = some m.cls := hown
  have N0 := Fr.nil n0
  have K0 := Keep.refl h0 []
  refine oS (fun _ k => castTop (own_ef_rm_lch_3_1 m t) k) ?_
  show own_go _ _ _ _ _ _ _ (s₁.setTop (mkF m 0 #[.val (.ref t), .val (.int (1 : Int32))] []))
  refine oS (fun _ k => XS.iloadN X0.here hx rfl (hb hby d15_0) rfl k) ?_
  refine oS (fun _ k => XS.aloadN X0.here hx rfl (hb hby d15_1) rfl rfl k) ?_
  show own_go _ _ _ _ _ _ _ (s₁.setTop (mkF m 2 #[.val (.ref t), .val (.int (1 : Int32))] [(.ref t), (.int (1 : Int32))]))
  refine oS (own_len X0 hx hZ e0 V1 (g := (mkF m 2 #[.val (.ref t), .val (.int (1 : Int32))] [(.ref t), (.int (1 : Int32))])) rfl rfl (hb hby d15_2)) ?_
  show own_go _ _ _ _ _ _ _ (s₁.setTop (mkF m 3 #[.val (.ref t), .val (.int (1 : Int32))] [(.int (3 : Int32)), (.int (1 : Int32))]))
  obtain ⟨v89, T89, L89, X89, hQ89, st89⟩ := own_callS X0 hx hZ (argsL := [(.int (1 : Int32)), (.int (3 : Int32))]) (rest := []) (rm_cki l Z a0 hw (1 : Int32) (3 : Int32) zC vS h0 n0 O0 hS (by decide) (by decide)) hown (ow hw 73 rfl) (ow hw 74 rfl) (ow hw 6 rfl) (ow hw 75 rfl) (by decide) e0 (g := (mkF m 3 #[.val (.ref t), .val (.int (1 : Int32))] [(.int (3 : Int32)), (.int (1 : Int32))])) rfl (by rw [hml]; rfl) (lenOf own_pd__28II_29V rfl) rfl (W := 0) (by show 2 * 0 + _ ≤ _; exact Nat.le_of_eq rfl) (hb hby d15_3) (by decide) (by decide) (by decide) (by decide)
  obtain ⟨rfl, Nq89, eq89⟩ := hQ89
  have N89 := Fr.app N0 Nq89
  refine oS st89 ?_
  show own_go _ _ _ _ _ _ _ (T89.setTop (mkF m 6 #[.val (.ref t), .val (.int (1 : Int32))] []))
  refine oS (fun _ k => XS.aloadN X89.here hx rfl (hb hby d15_6) rfl rfl k) ?_
  refine oS (fun _ k => XS.iloadN X89.here hx rfl (hb hby d15_7) rfl k) ?_
  show own_go _ _ _ _ _ _ _ (T89.setTop (mkF m 8 #[.val (.ref t), .val (.int (1 : Int32))] [(.int (1 : Int32)), (.ref t)]))
  refine oS (own_getB X89 hx hZ eq89 V1 (j := (1 : Int32)) (by decide) (v := (.int (c1.toInt8.toInt32))) rfl (g := (mkF m 8 #[.val (.ref t), .val (.int (1 : Int32))] [(.int (1 : Int32)), (.ref t)])) rfl rfl (hb hby d15_8)) ?_
  show own_go _ _ _ _ _ _ _ (T89.setTop (mkF m 9 #[.val (.ref t), .val (.int (1 : Int32))] [(.int (c1.toInt8.toInt32))]))
  refine oS (fun _ k => XS.sipush X89.here hx rfl (hb hby d15_9) k) ?_
  refine oS (fun _ k => XS.iand X89.here hx rfl (hb hby d15_12) rfl k) ?_
  refine oS (fun _ k => XS.i2c X89.here hx rfl (hb hby d15_13) rfl k) ?_
  show own_go _ _ _ _ _ _ _ (T89.setTop (mkF m 14 #[.val (.ref t), .val (.int (1 : Int32))] [(.int (((c1.toInt8.toInt32) &&& (255 : Int32)).toUInt32.toUInt16.toUInt32.toInt32))]))
  have cq : (((c1.toInt8.toInt32) &&& (255 : Int32)).toUInt32.toUInt16.toUInt32.toInt32) = c1 := StrChars.chr8_lo8 hc1.1 hl
  rw [cq]
  show own_go _ _ _ _ _ _ _ (T89.setTop (mkF m 14 #[.val (.ref t), .val (.int (1 : Int32))] [(.int c1)]))
  exact own_retN X89 hx hlk (t := .char) hret (by simp) (StrChars.narrow_ch hc1.1 hc1.2) (hb hby d15_14) (by decide) (by decide) (⟨rfl, N89, eq89⟩)
theorem own_ef_rm_uck_3_1 (m : MethodId) (t : Addr) : entryFrame m #[(.int (1 : Int32)), (.ref t)] 2 = mkF m 0 #[.val (.int (1 : Int32)), .val (.ref t)] [] := by first | (simp [entryFrame, mkF, argsToLocals, Value.category]; done) | rfl
set_option maxRecDepth 65536 in
set_option maxHeartbeats 40000000 in
theorem rm_uck_3_1 (l : Launch) (Z : State) (a0 : Array Value) (hw : ∀ d ∈ tables_1, d.before a0 Z = true) (t : Addr) (k : ClassId) (vs : List Value) (zC : Int32) (vS : Value) (h0 : Heap) (n0 : Nat) (O0 : Old Z n0 h0) (hS : own_S Z zC vS) (V1 : Arv Z h0 t k .byte (6 : Int32) vs (.int (0 : Int32))) :
    own_Met l Z (⟨"java/lang/StringUTF16", "checkIndex", "(I[B)V"⟩ : MethodName) jdk_52_method_91_code 2 none [] ({ frames := 2, cells := 0, slots := 0, locals := 32 } : Room) #[(.int (1 : Int32)), (.ref t)] h0 (fun v h L => v = none ∧ Fr n0 L ∧ h = h0) := by
  refine own_body own_pn_24 ?_
  intro p e s m below meth c s₁ hx hby hml hown hnm hret hlk X0 hZ e0
  replace hown : s.vm.findClass "java/lang/StringUTF16" = some m.cls := hown
  have N0 := Fr.nil n0
  have K0 := Keep.refl h0 []
  refine oS (fun _ k => castTop (own_ef_rm_uck_3_1 m t) k) ?_
  show own_go _ _ _ _ _ _ _ (s₁.setTop (mkF m 0 #[.val (.int (1 : Int32)), .val (.ref t)] []))
  refine oS (fun _ k => XS.iloadN X0.here hx rfl (hb hby d24_0) rfl k) ?_
  refine oS (fun _ k => XS.aloadN X0.here hx rfl (hb hby d24_1) rfl rfl k) ?_
  show own_go _ _ _ _ _ _ _ (s₁.setTop (mkF m 2 #[.val (.int (1 : Int32)), .val (.ref t)] [(.ref t), (.int (1 : Int32))]))
  obtain ⟨v90, T90, L90, X90, hQ90, st90⟩ := own_callS X0 hx hZ (argsL := [(.ref t)]) (rest := [(.int (1 : Int32))]) (rm_ulen_3 l Z a0 hw t k vs h0 n0 O0 V1) hown (ow hw 106 rfl) (ow hw 107 rfl) (ow hw 38 rfl) (ow hw 108 rfl) (by decide) e0 (g := (mkF m 2 #[.val (.int (1 : Int32)), .val (.ref t)] [(.ref t), (.int (1 : Int32))])) rfl (by rw [hml]; rfl) (lenOf own_pd__28_5bB_29I rfl) rfl (W := 1) (by show 2 * 0 + _ ≤ _; exact Nat.le_of_eq rfl) (hb hby d24_2) (by decide) (by decide) (by decide) (by decide)
  obtain ⟨rfl, Nq90, eq90⟩ := hQ90
  have N90 := Fr.app N0 Nq90
  refine oS st90 ?_
  show own_go _ _ _ _ _ _ _ (T90.setTop (mkF m 5 #[.val (.int (1 : Int32)), .val (.ref t)] [(.int (3 : Int32)), (.int (1 : Int32))]))
  obtain ⟨v91, T91, L91, X91, hQ91, st91⟩ := own_callS X90 hx hZ (argsL := [(.int (1 : Int32)), (.int (3 : Int32))]) (rest := []) (rm_cki l Z a0 hw (1 : Int32) (3 : Int32) zC vS h0 n0 O0 hS (by decide) (by decide)) hown (ow hw 109 rfl) (ow hw 74 rfl) (ow hw 6 rfl) (ow hw 75 rfl) (by decide) eq90 (g := (mkF m 5 #[.val (.int (1 : Int32)), .val (.ref t)] [(.int (3 : Int32)), (.int (1 : Int32))])) rfl (by rw [hml]; rfl) (lenOf own_pd__28II_29V rfl) rfl (W := 0) (by show 2 * 0 + _ ≤ _; exact Nat.le_of_eq rfl) (hb hby d24_5) (by decide) (by decide) (by decide) (by decide)
  obtain ⟨rfl, Nq91, eq91⟩ := hQ91
  have N91 := Fr.app N90 Nq91
  refine oS st91 ?_
  show own_go _ _ _ _ _ _ _ (T91.setTop (mkF m 8 #[.val (.int (1 : Int32)), .val (.ref t)] []))
  exact own_ret0 X91 hx hlk hret (hb hby d24_8) (by decide) (by decide) (⟨rfl, N91, eq91⟩)
theorem own_ef_rm_gc_3_1 (m : MethodId) (t : Addr) : entryFrame m #[(.ref t), (.int (1 : Int32))] 2 = mkF m 0 #[.val (.ref t), .val (.int (1 : Int32))] [] := by first | (simp [entryFrame, mkF, argsToLocals, Value.category]; done) | rfl
set_option maxRecDepth 65536 in
set_option maxHeartbeats 40000000 in
theorem rm_gc_3_1 (l : Launch) (Z : State) (a0 : Array Value) (hw : ∀ d ∈ tables_1, d.before a0 Z = true) (t : Addr) (k : ClassId) (c0 c1 c2 : Int32) (zC : Int32) (vS : Value) (h0 : Heap) (n0 : Nat) (O0 : Old Z n0 h0) (hS : own_S Z zC vS) (V1 : Arv Z h0 t k .byte (6 : Int32) [(.int (c0.toInt8.toInt32)), (.int ((c0 >>> ((8 : Int32) &&& 31)).toInt8.toInt32)), (.int (c1.toInt8.toInt32)), (.int ((c1 >>> ((8 : Int32) &&& 31)).toInt8.toInt32)), (.int (c2.toInt8.toInt32)), (.int ((c2 >>> ((8 : Int32) &&& 31)).toInt8.toInt32))] (.int (0 : Int32))) (hc1 : own_ch c1) :
    own_Met l Z (⟨"java/lang/StringUTF16", "getChar", "([BI)C"⟩ : MethodName) jdk_52_method_5_code 2 (some .char) [] ({ frames := 0, cells := 0, slots := 0, locals := 0 } : Room) #[(.ref t), (.int (1 : Int32))] h0 (fun v h L => v = some (.int c1) ∧ Fr n0 L ∧ h = h0) := by
  refine own_body own_pn_22 ?_
  intro p e s m below meth c s₁ hx hby hml hown hnm hret hlk X0 hZ e0
  replace hown : s.vm.findClass "java/lang/StringUTF16" = some m.cls := hown
  have N0 := Fr.nil n0
  have K0 := Keep.refl h0 []
  refine oS (fun _ k => castTop (own_ef_rm_gc_3_1 m t) k) ?_
  show own_go _ _ _ _ _ _ _ (s₁.setTop (mkF m 0 #[.val (.ref t), .val (.int (1 : Int32))] []))
  obtain ⟨T92, X92, e92, st92⟩ := getS2 X0 hx hZ hown (host := "") (Or.inl (ow hw 94 rfl)) Via.refl e0 (hS.2.2.2.2.1.ext O0.2) (g := (mkF m 0 #[.val (.ref t), .val (.int (1 : Int32))] [])) rfl (hb hby d22_0)
  refine oS st92 ?_
  show own_go _ _ _ _ _ _ _ (T92.setTop (mkF m 3 #[.val (.ref t), .val (.int (1 : Int32))] [(.int (1 : Int32))]))
  refine oS (fun _ k => XS.ifYes X92.here hx rfl (pc0 := 3) (pc' := 28) rfl (hb hby d22_3) rfl (by decide) (by decide) (by decide) k) ?_
  refine oS (fun _ k => XS.iloadN X92.here hx rfl (hb hby d22_28) rfl k) ?_
  refine oS (fun _ k => XS.iconst X92.here hx rfl (hb hby d22_29) k) ?_
  refine oS (fun _ k => XS.ishl X92.here hx rfl (hb hby d22_30) rfl k) ?_
  show own_go _ _ _ _ _ _ _ (T92.setTop (mkF m 31 #[.val (.ref t), .val (.int (1 : Int32))] [(.int ((1 : Int32) <<< ((1 : Int32) &&& 31)))]))
  rw [(by decide : ((1 : Int32) <<< ((1 : Int32) &&& 31)) = (2 : Int32))]
  show own_go _ _ _ _ _ _ _ (T92.setTop (mkF m 31 #[.val (.ref t), .val (.int (1 : Int32))] [(.int (2 : Int32))]))
  refine oS (fun _ k => XS.istoreN X92.here hx rfl (hb hby d22_31) rfl (l' := #[.val (.ref t), .val (.int (2 : Int32))]) rfl k) ?_
  refine oS (fun _ k => XS.aloadN X92.here hx rfl (hb hby d22_32) rfl rfl k) ?_
  refine oS (fun _ k => XS.iloadN X92.here hx rfl (hb hby d22_33) rfl k) ?_
  refine oS (fun _ k => XS.iinc X92.here hx rfl (hb hby d22_34) rfl (l' := #[.val (.ref t), .val (.int (3 : Int32))]) rfl k) ?_
  show own_go _ _ _ _ _ _ _ (T92.setTop (mkF m 37 #[.val (.ref t), .val (.int (3 : Int32))] [(.int (2 : Int32)), (.ref t)]))
  refine oS (own_getB X92 hx hZ e92 V1 (j := (2 : Int32)) (by decide) (v := (.int (c1.toInt8.toInt32))) rfl (g := (mkF m 37 #[.val (.ref t), .val (.int (3 : Int32))] [(.int (2 : Int32)), (.ref t)])) rfl rfl (hb hby d22_37)) ?_
  show own_go _ _ _ _ _ _ _ (T92.setTop (mkF m 38 #[.val (.ref t), .val (.int (3 : Int32))] [(.int (c1.toInt8.toInt32))]))
  refine oS (fun _ k => XS.sipush X92.here hx rfl (hb hby d22_38) k) ?_
  refine oS (fun _ k => XS.iand X92.here hx rfl (hb hby d22_41) rfl k) ?_
  show own_go _ _ _ _ _ _ _ (T92.setTop (mkF m 42 #[.val (.ref t), .val (.int (3 : Int32))] [(.int ((c1.toInt8.toInt32) &&& (255 : Int32)))]))
  obtain ⟨T93, X93, e93, st93⟩ := getS2 X92 hx hZ hown (host := "") (Or.inl (ow hw 95 rfl)) Via.refl e92 (hS.2.2.2.2.2.1.ext O0.2) (g := (mkF m 42 #[.val (.ref t), .val (.int (3 : Int32))] [(.int ((c1.toInt8.toInt32) &&& (255 : Int32)))])) rfl (hb hby d22_42)
  refine oS st93 ?_
  show own_go _ _ _ _ _ _ _ (T93.setTop (mkF m 45 #[.val (.ref t), .val (.int (3 : Int32))] [(.int (0 : Int32)), (.int ((c1.toInt8.toInt32) &&& (255 : Int32)))]))
  refine oS (fun _ k => XS.ishl X93.here hx rfl (hb hby d22_45) rfl k) ?_
  refine oS (fun _ k => XS.aloadN X93.here hx rfl (hb hby d22_46) rfl rfl k) ?_
  refine oS (fun _ k => XS.iloadN X93.here hx rfl (hb hby d22_47) rfl k) ?_
  show own_go _ _ _ _ _ _ _ (T93.setTop (mkF m 48 #[.val (.ref t), .val (.int (3 : Int32))] [(.int (3 : Int32)), (.ref t), (.int (((c1.toInt8.toInt32) &&& (255 : Int32)) <<< ((0 : Int32) &&& 31)))]))
  refine oS (own_getB X93 hx hZ e93 V1 (j := (3 : Int32)) (by decide) (v := (.int ((c1 >>> ((8 : Int32) &&& 31)).toInt8.toInt32))) rfl (g := (mkF m 48 #[.val (.ref t), .val (.int (3 : Int32))] [(.int (3 : Int32)), (.ref t), (.int (((c1.toInt8.toInt32) &&& (255 : Int32)) <<< ((0 : Int32) &&& 31)))])) rfl rfl (hb hby d22_48)) ?_
  show own_go _ _ _ _ _ _ _ (T93.setTop (mkF m 49 #[.val (.ref t), .val (.int (3 : Int32))] [(.int ((c1 >>> ((8 : Int32) &&& 31)).toInt8.toInt32)), (.int (((c1.toInt8.toInt32) &&& (255 : Int32)) <<< ((0 : Int32) &&& 31)))]))
  refine oS (fun _ k => XS.sipush X93.here hx rfl (hb hby d22_49) k) ?_
  refine oS (fun _ k => XS.iand X93.here hx rfl (hb hby d22_52) rfl k) ?_
  show own_go _ _ _ _ _ _ _ (T93.setTop (mkF m 53 #[.val (.ref t), .val (.int (3 : Int32))] [(.int (((c1 >>> ((8 : Int32) &&& 31)).toInt8.toInt32) &&& (255 : Int32))), (.int (((c1.toInt8.toInt32) &&& (255 : Int32)) <<< ((0 : Int32) &&& 31)))]))
  obtain ⟨T94, X94, e94, st94⟩ := getS2 X93 hx hZ hown (host := "") (Or.inl (ow hw 96 rfl)) Via.refl e93 (hS.2.2.2.2.2.2.ext O0.2) (g := (mkF m 53 #[.val (.ref t), .val (.int (3 : Int32))] [(.int (((c1 >>> ((8 : Int32) &&& 31)).toInt8.toInt32) &&& (255 : Int32))), (.int (((c1.toInt8.toInt32) &&& (255 : Int32)) <<< ((0 : Int32) &&& 31)))])) rfl (hb hby d22_53)
  refine oS st94 ?_
  show own_go _ _ _ _ _ _ _ (T94.setTop (mkF m 56 #[.val (.ref t), .val (.int (3 : Int32))] [(.int (8 : Int32)), (.int (((c1 >>> ((8 : Int32) &&& 31)).toInt8.toInt32) &&& (255 : Int32))), (.int (((c1.toInt8.toInt32) &&& (255 : Int32)) <<< ((0 : Int32) &&& 31)))]))
  refine oS (fun _ k => XS.ishl X94.here hx rfl (hb hby d22_56) rfl k) ?_
  refine oS (fun _ k => XS.ior X94.here hx rfl (hb hby d22_57) rfl k) ?_
  refine oS (fun _ k => XS.i2c X94.here hx rfl (hb hby d22_58) rfl k) ?_
  show own_go _ _ _ _ _ _ _ (T94.setTop (mkF m 59 #[.val (.ref t), .val (.int (3 : Int32))] [(.int (((((c1.toInt8.toInt32) &&& (255 : Int32)) <<< ((0 : Int32) &&& 31)) ||| ((((c1 >>> ((8 : Int32) &&& 31)).toInt8.toInt32) &&& (255 : Int32)) <<< ((8 : Int32) &&& 31))).toUInt32.toUInt16.toUInt32.toInt32))]))
  have pq : (((((c1.toInt8.toInt32) &&& (255 : Int32)) <<< ((0 : Int32) &&& 31)) ||| ((((c1 >>> ((8 : Int32) &&& 31)).toInt8.toInt32) &&& (255 : Int32)) <<< ((8 : Int32) &&& 31))).toUInt32.toUInt16.toUInt32.toInt32) = c1 := StrChars.pair_says hc1.1 hc1.2
  rw [pq]
  show own_go _ _ _ _ _ _ _ (T94.setTop (mkF m 59 #[.val (.ref t), .val (.int (3 : Int32))] [(.int c1)]))
  exact own_retN X94 hx hlk (t := .char) hret (by simp) (StrChars.narrow_ch hc1.1 hc1.2) (hb hby d22_59) (by decide) (by decide) (⟨rfl, N0, e94⟩)
theorem own_ef_rm_uch_3_1 (m : MethodId) (t : Addr) : entryFrame m #[(.ref t), (.int (1 : Int32))] 2 = mkF m 0 #[.val (.ref t), .val (.int (1 : Int32))] [] := by first | (simp [entryFrame, mkF, argsToLocals, Value.category]; done) | rfl
set_option maxRecDepth 65536 in
set_option maxHeartbeats 40000000 in
theorem rm_uch_3_1 (l : Launch) (Z : State) (a0 : Array Value) (hw : ∀ d ∈ tables_1, d.before a0 Z = true) (t : Addr) (k : ClassId) (c0 c1 c2 : Int32) (zC : Int32) (vS : Value) (h0 : Heap) (n0 : Nat) (O0 : Old Z n0 h0) (hS : own_S Z zC vS) (V1 : Arv Z h0 t k .byte (6 : Int32) [(.int (c0.toInt8.toInt32)), (.int ((c0 >>> ((8 : Int32) &&& 31)).toInt8.toInt32)), (.int (c1.toInt8.toInt32)), (.int ((c1 >>> ((8 : Int32) &&& 31)).toInt8.toInt32)), (.int (c2.toInt8.toInt32)), (.int ((c2 >>> ((8 : Int32) &&& 31)).toInt8.toInt32))] (.int (0 : Int32))) (hc1 : own_ch c1) :
    own_Met l Z (⟨"java/lang/StringUTF16", "charAt", "([BI)C"⟩ : MethodName) jdk_52_method_83_code 2 (some .char) [] ({ frames := 3, cells := 0, slots := 0, locals := 48 } : Room) #[(.ref t), (.int (1 : Int32))] h0 (fun v h L => v = some (.int c1) ∧ Fr n0 L ∧ h = h0) := by
  refine own_body own_pn_23 ?_
  intro p e s m below meth c s₁ hx hby hml hown hnm hret hlk X0 hZ e0
  replace hown : s.vm.findClass "java/lang/StringUTF16" = some m.cls := hown
  have N0 := Fr.nil n0
  have K0 := Keep.refl h0 []
  refine oS (fun _ k => castTop (own_ef_rm_uch_3_1 m t) k) ?_
  show own_go _ _ _ _ _ _ _ (s₁.setTop (mkF m 0 #[.val (.ref t), .val (.int (1 : Int32))] []))
  refine oS (fun _ k => XS.iloadN X0.here hx rfl (hb hby d23_0) rfl k) ?_
  refine oS (fun _ k => XS.aloadN X0.here hx rfl (hb hby d23_1) rfl rfl k) ?_
  show own_go _ _ _ _ _ _ _ (s₁.setTop (mkF m 2 #[.val (.ref t), .val (.int (1 : Int32))] [(.ref t), (.int (1 : Int32))]))
  obtain ⟨v95, T95, L95, X95, hQ95, st95⟩ := own_callS X0 hx hZ (argsL := [(.int (1 : Int32)), (.ref t)]) (rest := []) (rm_uck_3_1 l Z a0 hw t k _ zC vS h0 n0 O0 hS V1) hown (ow hw 103 rfl) (ow hw 104 rfl) (ow hw 38 rfl) (ow hw 105 rfl) (by decide) e0 (g := (mkF m 2 #[.val (.ref t), .val (.int (1 : Int32))] [(.ref t), (.int (1 : Int32))])) rfl (by rw [hml]; rfl) (lenOf own_pd__28I_5bB_29V rfl) rfl (W := 0) (by show 2 * 0 + _ ≤ _; exact Nat.le_of_eq rfl) (hb hby d23_2) (by decide) (by decide) (by decide) (by decide)
  obtain ⟨rfl, Nq95, eq95⟩ := hQ95
  have N95 := Fr.app N0 Nq95
  refine oS st95 ?_
  show own_go _ _ _ _ _ _ _ (T95.setTop (mkF m 5 #[.val (.ref t), .val (.int (1 : Int32))] []))
  refine oS (fun _ k => XS.aloadN X95.here hx rfl (hb hby d23_5) rfl rfl k) ?_
  refine oS (fun _ k => XS.iloadN X95.here hx rfl (hb hby d23_6) rfl k) ?_
  show own_go _ _ _ _ _ _ _ (T95.setTop (mkF m 7 #[.val (.ref t), .val (.int (1 : Int32))] [(.int (1 : Int32)), (.ref t)]))
  obtain ⟨v96, T96, L96, X96, hQ96, st96⟩ := own_callS X95 hx hZ (argsL := [(.ref t), (.int (1 : Int32))]) (rest := []) (rm_gc_3_1 l Z a0 hw t k c0 c1 c2 zC vS h0 n0 O0 hS V1 hc1) hown (ow hw 97 rfl) (ow hw 98 rfl) (ow hw 38 rfl) (ow hw 99 rfl) (by decide) eq95 (g := (mkF m 7 #[.val (.ref t), .val (.int (1 : Int32))] [(.int (1 : Int32)), (.ref t)])) rfl (by rw [hml]; rfl) (lenOf own_pd__28_5bBI_29C rfl) rfl (W := 0) (by show 2 * 0 + _ ≤ _; exact Nat.le_of_eq rfl) (hb hby d23_7) (by decide) (by decide) (by decide) (by decide)
  obtain ⟨rfl, Nq96, eq96⟩ := hQ96
  have N96 := Fr.app N95 Nq96
  refine oS st96 ?_
  show own_go _ _ _ _ _ _ _ (T96.setTop (mkF m 10 #[.val (.ref t), .val (.int (1 : Int32))] [(.int c1)]))
  exact own_retN X96 hx hlk (t := .char) hret (by simp) (StrChars.narrow_ch hc1.1 hc1.2) (hb hby d23_10) (by decide) (by decide) (⟨rfl, N96, eq96⟩)
theorem own_ef_rm_chL_3_1 (m : MethodId) (a1 : Addr) : entryFrame m #[(.ref a1), (.int (1 : Int32))] 2 = mkF m 0 #[.val (.ref a1), .val (.int (1 : Int32))] [] := by first | (simp [entryFrame, mkF, argsToLocals, Value.category]; done) | rfl
set_option maxRecDepth 65536 in
set_option maxHeartbeats 40000000 in
theorem rm_chL_3_1 (l : Launch) (Z : State) (a0 : Array Value) (hw : ∀ d ∈ tables_1, d.before a0 Z = true) (a1 t : Addr) (k : ClassId) (c0 c1 c2 : Int32) (zC : Int32) (vS : Value) (h0 : Heap) (n0 : Nat) (O0 : Old Z n0 h0) (hS : own_S Z zC vS) (E_a1 : Exa Z h0 a1 "java/lang/String") (F1 : Fld Z h0 a1 "java/lang/String" "value" "[B" (.ref t)) (F2 : Fld Z h0 a1 "java/lang/String" "coder" "B" (.int (0 : Int32))) (V1 : Arv Z h0 t k .byte (3 : Int32) [(.int (c0.toInt8.toInt32)), (.int (c1.toInt8.toInt32)), (.int (c2.toInt8.toInt32))] (.int (0 : Int32))) (hc1 : own_ch c1) (hl : ¬ (255 : Int32) < c1) :
    own_Met l Z (⟨"java/lang/String", "charAt", "(I)C"⟩ : MethodName) jdk_42_method_56_code 2 (some .char) [] ({ frames := 4, cells := 0, slots := 0, locals := 64 } : Room) #[(.ref a1), (.int (1 : Int32))] h0 (fun v h L => v = some (.int c1) ∧ Fr n0 L ∧ h = h0) := by
  refine own_body own_pn_13 ?_
  intro p e s m below meth c s₁ hx hby hml hown hnm hret hlk X0 hZ e0
  replace hown : s.vm.findClass "java/lang/String" = some m.cls := hown
  have N0 := Fr.nil n0
  have K0 := Keep.refl h0 []
  refine oS (fun _ k => castTop (own_ef_rm_chL_3_1 m a1) k) ?_
  show own_go _ _ _ _ _ _ _ (s₁.setTop (mkF m 0 #[.val (.ref a1), .val (.int (1 : Int32))] []))
  refine oS (fun _ k => XS.aloadN X0.here hx rfl (hb hby d13_0) rfl rfl k) ?_
  show own_go _ _ _ _ _ _ _ (s₁.setTop (mkF m 1 #[.val (.ref a1), .val (.int (1 : Int32))] [(.ref a1)]))
  obtain ⟨v97, T97, L97, X97, hQ97, st97⟩ := own_callV X0 hx hZ (argsL := []) (rest := []) (rm_isLatin1_0 l Z a0 hw a1 zC vS h0 n0 O0 hS F2) hown (ow hw 64 rfl) (ow hw 65 rfl) (notFace_of_selects (args := #[]) (mvT hZ (ow hw 67 rfl))) (ow hw 67 rfl) (ow hw 66 rfl) (ow hw 6 rfl) (ow hw 68 rfl) (by decide) e0 E_a1 (g := (mkF m 1 #[.val (.ref a1), .val (.int (1 : Int32))] [(.ref a1)])) rfl (by rw [hml]; rfl) (lenOf own_pd__28_29Z rfl) rfl (W := 0) (by show 2 * 0 + _ ≤ _; exact Nat.le_of_eq rfl) (hb hby d13_1) (by decide) (by decide) (by decide) (by decide)
  obtain ⟨rfl, Nq97, eq97⟩ := hQ97
  have N97 := Fr.app N0 Nq97
  refine oS st97 ?_
  show own_go _ _ _ _ _ _ _ (T97.setTop (mkF m 4 #[.val (.ref a1), .val (.int (1 : Int32))] [(.int (1 : Int32))]))
  refine oS (fun _ k => XS.ifNo X97.here hx rfl (hb hby d13_4) rfl (by decide) k) ?_
  refine oS (fun _ k => XS.aloadN X97.here hx rfl (hb hby d13_7) rfl rfl k) ?_
  show own_go _ _ _ _ _ _ _ (T97.setTop (mkF m 8 #[.val (.ref a1), .val (.int (1 : Int32))] [(.ref a1)]))
  obtain ⟨T98, X98, e98, st98⟩ := getF X97 hx hZ hown (host := "") (Or.inl (ow hw 24 rfl)) Via.refl eq97 F1 (g := (mkF m 8 #[.val (.ref a1), .val (.int (1 : Int32))] [(.ref a1)])) rfl rfl (hb hby d13_8)
  refine oS st98 ?_
  show own_go _ _ _ _ _ _ _ (T98.setTop (mkF m 11 #[.val (.ref a1), .val (.int (1 : Int32))] [(.ref t)]))
  refine oS (fun _ k => XS.iloadN X98.here hx rfl (hb hby d13_11) rfl k) ?_
  show own_go _ _ _ _ _ _ _ (T98.setTop (mkF m 12 #[.val (.ref a1), .val (.int (1 : Int32))] [(.int (1 : Int32)), (.ref t)]))
  obtain ⟨v99, T99, L99, X99, hQ99, st99⟩ := own_callS X98 hx hZ (argsL := [(.ref t), (.int (1 : Int32))]) (rest := []) (rm_lch_3_1 l Z a0 hw t k c0 c1 c2 zC vS h0 n0 O0 hS V1 hc1 hl) hown (ow hw 69 rfl) (ow hw 70 rfl) (ow hw 71 rfl) (ow hw 72 rfl) (by decide) e98 (g := (mkF m 12 #[.val (.ref a1), .val (.int (1 : Int32))] [(.int (1 : Int32)), (.ref t)])) rfl (by rw [hml]; rfl) (lenOf own_pd__28_5bBI_29C rfl) rfl (W := 0) (by show 2 * 0 + _ ≤ _; exact Nat.le_of_eq rfl) (hb hby d13_12) (by decide) (by decide) (by decide) (by decide)
  obtain ⟨rfl, Nq99, eq99⟩ := hQ99
  have N99 := Fr.app N97 Nq99
  refine oS st99 ?_
  show own_go _ _ _ _ _ _ _ (T99.setTop (mkF m 15 #[.val (.ref a1), .val (.int (1 : Int32))] [(.int c1)]))
  exact own_retN X99 hx hlk (t := .char) hret (by simp) (StrChars.narrow_ch hc1.1 hc1.2) (hb hby d13_15) (by decide) (by decide) (⟨rfl, N99, eq99⟩)
theorem own_ef_rm_chW_3_1 (m : MethodId) (a1 : Addr) : entryFrame m #[(.ref a1), (.int (1 : Int32))] 2 = mkF m 0 #[.val (.ref a1), .val (.int (1 : Int32))] [] := by first | (simp [entryFrame, mkF, argsToLocals, Value.category]; done) | rfl
set_option maxRecDepth 65536 in
set_option maxHeartbeats 40000000 in
theorem rm_chW_3_1 (l : Launch) (Z : State) (a0 : Array Value) (hw : ∀ d ∈ tables_1, d.before a0 Z = true) (a1 t : Addr) (k : ClassId) (c0 c1 c2 : Int32) (zC : Int32) (vS : Value) (h0 : Heap) (n0 : Nat) (O0 : Old Z n0 h0) (hS : own_S Z zC vS) (E_a1 : Exa Z h0 a1 "java/lang/String") (F1 : Fld Z h0 a1 "java/lang/String" "value" "[B" (.ref t)) (F2 : Fld Z h0 a1 "java/lang/String" "coder" "B" (.int (1 : Int32))) (V1 : Arv Z h0 t k .byte (6 : Int32) [(.int (c0.toInt8.toInt32)), (.int ((c0 >>> ((8 : Int32) &&& 31)).toInt8.toInt32)), (.int (c1.toInt8.toInt32)), (.int ((c1 >>> ((8 : Int32) &&& 31)).toInt8.toInt32)), (.int (c2.toInt8.toInt32)), (.int ((c2 >>> ((8 : Int32) &&& 31)).toInt8.toInt32))] (.int (0 : Int32))) (hc1 : own_ch c1) :
    own_Met l Z (⟨"java/lang/String", "charAt", "(I)C"⟩ : MethodName) jdk_42_method_56_code 2 (some .char) [] ({ frames := 4, cells := 0, slots := 0, locals := 64 } : Room) #[(.ref a1), (.int (1 : Int32))] h0 (fun v h L => v = some (.int c1) ∧ Fr n0 L ∧ h = h0) := by
  refine own_body own_pn_13 ?_
  intro p e s m below meth c s₁ hx hby hml hown hnm hret hlk X0 hZ e0
  replace hown : s.vm.findClass "java/lang/String" = some m.cls := hown
  have N0 := Fr.nil n0
  have K0 := Keep.refl h0 []
  refine oS (fun _ k => castTop (own_ef_rm_chW_3_1 m a1) k) ?_
  show own_go _ _ _ _ _ _ _ (s₁.setTop (mkF m 0 #[.val (.ref a1), .val (.int (1 : Int32))] []))
  refine oS (fun _ k => XS.aloadN X0.here hx rfl (hb hby d13_0) rfl rfl k) ?_
  show own_go _ _ _ _ _ _ _ (s₁.setTop (mkF m 1 #[.val (.ref a1), .val (.int (1 : Int32))] [(.ref a1)]))
  obtain ⟨v100, T100, L100, X100, hQ100, st100⟩ := own_callV X0 hx hZ (argsL := []) (rest := []) (rm_isLatin1_1 l Z a0 hw a1 zC vS h0 n0 O0 hS F2) hown (ow hw 64 rfl) (ow hw 65 rfl) (notFace_of_selects (args := #[]) (mvT hZ (ow hw 67 rfl))) (ow hw 67 rfl) (ow hw 66 rfl) (ow hw 6 rfl) (ow hw 68 rfl) (by decide) e0 E_a1 (g := (mkF m 1 #[.val (.ref a1), .val (.int (1 : Int32))] [(.ref a1)])) rfl (by rw [hml]; rfl) (lenOf own_pd__28_29Z rfl) rfl (W := 0) (by show 2 * 0 + _ ≤ _; exact Nat.le_of_eq rfl) (hb hby d13_1) (by decide) (by decide) (by decide) (by decide)
  obtain ⟨rfl, Nq100, eq100⟩ := hQ100
  have N100 := Fr.app N0 Nq100
  refine oS st100 ?_
  show own_go _ _ _ _ _ _ _ (T100.setTop (mkF m 4 #[.val (.ref a1), .val (.int (1 : Int32))] [(.int (0 : Int32))]))
  refine oS (fun _ k => XS.ifYes X100.here hx rfl (pc0 := 4) (pc' := 16) rfl (hb hby d13_4) rfl (by decide) (by decide) (by decide) k) ?_
  refine oS (fun _ k => XS.aloadN X100.here hx rfl (hb hby d13_16) rfl rfl k) ?_
  show own_go _ _ _ _ _ _ _ (T100.setTop (mkF m 17 #[.val (.ref a1), .val (.int (1 : Int32))] [(.ref a1)]))
  obtain ⟨T101, X101, e101, st101⟩ := getF X100 hx hZ hown (host := "") (Or.inl (ow hw 24 rfl)) Via.refl eq100 F1 (g := (mkF m 17 #[.val (.ref a1), .val (.int (1 : Int32))] [(.ref a1)])) rfl rfl (hb hby d13_17)
  refine oS st101 ?_
  show own_go _ _ _ _ _ _ _ (T101.setTop (mkF m 20 #[.val (.ref a1), .val (.int (1 : Int32))] [(.ref t)]))
  refine oS (fun _ k => XS.iloadN X101.here hx rfl (hb hby d13_20) rfl k) ?_
  show own_go _ _ _ _ _ _ _ (T101.setTop (mkF m 21 #[.val (.ref a1), .val (.int (1 : Int32))] [(.int (1 : Int32)), (.ref t)]))
  obtain ⟨v102, T102, L102, X102, hQ102, st102⟩ := own_callS X101 hx hZ (argsL := [(.ref t), (.int (1 : Int32))]) (rest := []) (rm_uch_3_1 l Z a0 hw t k c0 c1 c2 zC vS h0 n0 O0 hS V1 hc1) hown (ow hw 100 rfl) (ow hw 101 rfl) (ow hw 38 rfl) (ow hw 102 rfl) (by decide) e101 (g := (mkF m 21 #[.val (.ref a1), .val (.int (1 : Int32))] [(.int (1 : Int32)), (.ref t)])) rfl (by rw [hml]; rfl) (lenOf own_pd__28_5bBI_29C rfl) rfl (W := 0) (by show 2 * 0 + _ ≤ _; exact Nat.le_of_eq rfl) (hb hby d13_21) (by decide) (by decide) (by decide) (by decide)
  obtain ⟨rfl, Nq102, eq102⟩ := hQ102
  have N102 := Fr.app N100 Nq102
  refine oS st102 ?_
  show own_go _ _ _ _ _ _ _ (T102.setTop (mkF m 24 #[.val (.ref a1), .val (.int (1 : Int32))] [(.int c1)]))
  exact own_retN X102 hx hlk (t := .char) hret (by simp) (StrChars.narrow_ch hc1.1 hc1.2) (hb hby d13_24) (by decide) (by decide) (⟨rfl, N102, eq102⟩)
theorem own_ef_rm_lch_3_2 (m : MethodId) (t : Addr) : entryFrame m #[(.ref t), (.int (2 : Int32))] 2 = mkF m 0 #[.val (.ref t), .val (.int (2 : Int32))] [] := by first | (simp [entryFrame, mkF, argsToLocals, Value.category]; done) | rfl
set_option maxRecDepth 65536 in
set_option maxHeartbeats 40000000 in
theorem rm_lch_3_2 (l : Launch) (Z : State) (a0 : Array Value) (hw : ∀ d ∈ tables_1, d.before a0 Z = true) (t : Addr) (k : ClassId) (c0 c1 c2 : Int32) (zC : Int32) (vS : Value) (h0 : Heap) (n0 : Nat) (O0 : Old Z n0 h0) (hS : own_S Z zC vS) (V1 : Arv Z h0 t k .byte (3 : Int32) [(.int (c0.toInt8.toInt32)), (.int (c1.toInt8.toInt32)), (.int (c2.toInt8.toInt32))] (.int (0 : Int32))) (hc2 : own_ch c2) (hl : ¬ (255 : Int32) < c2) :
    own_Met l Z (⟨"java/lang/StringLatin1", "charAt", "([BI)C"⟩ : MethodName) jdk_43_method_2_code 2 (some .char) [] ({ frames := 2, cells := 0, slots := 0, locals := 32 } : Room) #[(.ref t), (.int (2 : Int32))] h0 (fun v h L => v = some (.int c2) ∧ Fr n0 L ∧ h = h0) := by
  refine own_body own_pn_15 ?_
  intro p e s m below meth c s₁ hx hby hml hown hnm hret hlk X0 hZ e0
  replace hown : s.vm.findClass "java/lang/StringLatin1" = some m.cls := hown
  have N0 := Fr.nil n0
  have K0 := Keep.refl h0 []
  refine oS (fun _ k => castTop (own_ef_rm_lch_3_2 m t) k) ?_
  show own_go _ _ _ _ _ _ _ (s₁.setTop (mkF m 0 #[.val (.ref t), .val (.int (2 : Int32))] []))
  refine oS (fun _ k => XS.iloadN X0.here hx rfl (hb hby d15_0) rfl k) ?_
  refine oS (fun _ k => XS.aloadN X0.here hx rfl (hb hby d15_1) rfl rfl k) ?_
  show own_go _ _ _ _ _ _ _ (s₁.setTop (mkF m 2 #[.val (.ref t), .val (.int (2 : Int32))] [(.ref t), (.int (2 : Int32))]))
  refine oS (own_len X0 hx hZ e0 V1 (g := (mkF m 2 #[.val (.ref t), .val (.int (2 : Int32))] [(.ref t), (.int (2 : Int32))])) rfl rfl (hb hby d15_2)) ?_
  show own_go _ _ _ _ _ _ _ (s₁.setTop (mkF m 3 #[.val (.ref t), .val (.int (2 : Int32))] [(.int (3 : Int32)), (.int (2 : Int32))]))
  obtain ⟨v103, T103, L103, X103, hQ103, st103⟩ := own_callS X0 hx hZ (argsL := [(.int (2 : Int32)), (.int (3 : Int32))]) (rest := []) (rm_cki l Z a0 hw (2 : Int32) (3 : Int32) zC vS h0 n0 O0 hS (by decide) (by decide)) hown (ow hw 73 rfl) (ow hw 74 rfl) (ow hw 6 rfl) (ow hw 75 rfl) (by decide) e0 (g := (mkF m 3 #[.val (.ref t), .val (.int (2 : Int32))] [(.int (3 : Int32)), (.int (2 : Int32))])) rfl (by rw [hml]; rfl) (lenOf own_pd__28II_29V rfl) rfl (W := 0) (by show 2 * 0 + _ ≤ _; exact Nat.le_of_eq rfl) (hb hby d15_3) (by decide) (by decide) (by decide) (by decide)
  obtain ⟨rfl, Nq103, eq103⟩ := hQ103
  have N103 := Fr.app N0 Nq103
  refine oS st103 ?_
  show own_go _ _ _ _ _ _ _ (T103.setTop (mkF m 6 #[.val (.ref t), .val (.int (2 : Int32))] []))
  refine oS (fun _ k => XS.aloadN X103.here hx rfl (hb hby d15_6) rfl rfl k) ?_
  refine oS (fun _ k => XS.iloadN X103.here hx rfl (hb hby d15_7) rfl k) ?_
  show own_go _ _ _ _ _ _ _ (T103.setTop (mkF m 8 #[.val (.ref t), .val (.int (2 : Int32))] [(.int (2 : Int32)), (.ref t)]))
  refine oS (own_getB X103 hx hZ eq103 V1 (j := (2 : Int32)) (by decide) (v := (.int (c2.toInt8.toInt32))) rfl (g := (mkF m 8 #[.val (.ref t), .val (.int (2 : Int32))] [(.int (2 : Int32)), (.ref t)])) rfl rfl (hb hby d15_8)) ?_
  show own_go _ _ _ _ _ _ _ (T103.setTop (mkF m 9 #[.val (.ref t), .val (.int (2 : Int32))] [(.int (c2.toInt8.toInt32))]))
  refine oS (fun _ k => XS.sipush X103.here hx rfl (hb hby d15_9) k) ?_
  refine oS (fun _ k => XS.iand X103.here hx rfl (hb hby d15_12) rfl k) ?_
  refine oS (fun _ k => XS.i2c X103.here hx rfl (hb hby d15_13) rfl k) ?_
  show own_go _ _ _ _ _ _ _ (T103.setTop (mkF m 14 #[.val (.ref t), .val (.int (2 : Int32))] [(.int (((c2.toInt8.toInt32) &&& (255 : Int32)).toUInt32.toUInt16.toUInt32.toInt32))]))
  have cq : (((c2.toInt8.toInt32) &&& (255 : Int32)).toUInt32.toUInt16.toUInt32.toInt32) = c2 := StrChars.chr8_lo8 hc2.1 hl
  rw [cq]
  show own_go _ _ _ _ _ _ _ (T103.setTop (mkF m 14 #[.val (.ref t), .val (.int (2 : Int32))] [(.int c2)]))
  exact own_retN X103 hx hlk (t := .char) hret (by simp) (StrChars.narrow_ch hc2.1 hc2.2) (hb hby d15_14) (by decide) (by decide) (⟨rfl, N103, eq103⟩)
theorem own_ef_rm_uck_3_2 (m : MethodId) (t : Addr) : entryFrame m #[(.int (2 : Int32)), (.ref t)] 2 = mkF m 0 #[.val (.int (2 : Int32)), .val (.ref t)] [] := by first | (simp [entryFrame, mkF, argsToLocals, Value.category]; done) | rfl
set_option maxRecDepth 65536 in
set_option maxHeartbeats 40000000 in
theorem rm_uck_3_2 (l : Launch) (Z : State) (a0 : Array Value) (hw : ∀ d ∈ tables_1, d.before a0 Z = true) (t : Addr) (k : ClassId) (vs : List Value) (zC : Int32) (vS : Value) (h0 : Heap) (n0 : Nat) (O0 : Old Z n0 h0) (hS : own_S Z zC vS) (V1 : Arv Z h0 t k .byte (6 : Int32) vs (.int (0 : Int32))) :
    own_Met l Z (⟨"java/lang/StringUTF16", "checkIndex", "(I[B)V"⟩ : MethodName) jdk_52_method_91_code 2 none [] ({ frames := 2, cells := 0, slots := 0, locals := 32 } : Room) #[(.int (2 : Int32)), (.ref t)] h0 (fun v h L => v = none ∧ Fr n0 L ∧ h = h0) := by
  refine own_body own_pn_24 ?_
  intro p e s m below meth c s₁ hx hby hml hown hnm hret hlk X0 hZ e0
  replace hown : s.vm.findClass "java/lang/StringUTF16" = some m.cls := hown
  have N0 := Fr.nil n0
  have K0 := Keep.refl h0 []
  refine oS (fun _ k => castTop (own_ef_rm_uck_3_2 m t) k) ?_
  show own_go _ _ _ _ _ _ _ (s₁.setTop (mkF m 0 #[.val (.int (2 : Int32)), .val (.ref t)] []))
  refine oS (fun _ k => XS.iloadN X0.here hx rfl (hb hby d24_0) rfl k) ?_
  refine oS (fun _ k => XS.aloadN X0.here hx rfl (hb hby d24_1) rfl rfl k) ?_
  show own_go _ _ _ _ _ _ _ (s₁.setTop (mkF m 2 #[.val (.int (2 : Int32)), .val (.ref t)] [(.ref t), (.int (2 : Int32))]))
  obtain ⟨v104, T104, L104, X104, hQ104, st104⟩ := own_callS X0 hx hZ (argsL := [(.ref t)]) (rest := [(.int (2 : Int32))]) (rm_ulen_3 l Z a0 hw t k vs h0 n0 O0 V1) hown (ow hw 106 rfl) (ow hw 107 rfl) (ow hw 38 rfl) (ow hw 108 rfl) (by decide) e0 (g := (mkF m 2 #[.val (.int (2 : Int32)), .val (.ref t)] [(.ref t), (.int (2 : Int32))])) rfl (by rw [hml]; rfl) (lenOf own_pd__28_5bB_29I rfl) rfl (W := 1) (by show 2 * 0 + _ ≤ _; exact Nat.le_of_eq rfl) (hb hby d24_2) (by decide) (by decide) (by decide) (by decide)
  obtain ⟨rfl, Nq104, eq104⟩ := hQ104
  have N104 := Fr.app N0 Nq104
  refine oS st104 ?_
  show own_go _ _ _ _ _ _ _ (T104.setTop (mkF m 5 #[.val (.int (2 : Int32)), .val (.ref t)] [(.int (3 : Int32)), (.int (2 : Int32))]))
  obtain ⟨v105, T105, L105, X105, hQ105, st105⟩ := own_callS X104 hx hZ (argsL := [(.int (2 : Int32)), (.int (3 : Int32))]) (rest := []) (rm_cki l Z a0 hw (2 : Int32) (3 : Int32) zC vS h0 n0 O0 hS (by decide) (by decide)) hown (ow hw 109 rfl) (ow hw 74 rfl) (ow hw 6 rfl) (ow hw 75 rfl) (by decide) eq104 (g := (mkF m 5 #[.val (.int (2 : Int32)), .val (.ref t)] [(.int (3 : Int32)), (.int (2 : Int32))])) rfl (by rw [hml]; rfl) (lenOf own_pd__28II_29V rfl) rfl (W := 0) (by show 2 * 0 + _ ≤ _; exact Nat.le_of_eq rfl) (hb hby d24_5) (by decide) (by decide) (by decide) (by decide)
  obtain ⟨rfl, Nq105, eq105⟩ := hQ105
  have N105 := Fr.app N104 Nq105
  refine oS st105 ?_
  show own_go _ _ _ _ _ _ _ (T105.setTop (mkF m 8 #[.val (.int (2 : Int32)), .val (.ref t)] []))
  exact own_ret0 X105 hx hlk hret (hb hby d24_8) (by decide) (by decide) (⟨rfl, N105, eq105⟩)
theorem own_ef_rm_gc_3_2 (m : MethodId) (t : Addr) : entryFrame m #[(.ref t), (.int (2 : Int32))] 2 = mkF m 0 #[.val (.ref t), .val (.int (2 : Int32))] [] := by first | (simp [entryFrame, mkF, argsToLocals, Value.category]; done) | rfl
set_option maxRecDepth 65536 in
set_option maxHeartbeats 40000000 in
theorem rm_gc_3_2 (l : Launch) (Z : State) (a0 : Array Value) (hw : ∀ d ∈ tables_1, d.before a0 Z = true) (t : Addr) (k : ClassId) (c0 c1 c2 : Int32) (zC : Int32) (vS : Value) (h0 : Heap) (n0 : Nat) (O0 : Old Z n0 h0) (hS : own_S Z zC vS) (V1 : Arv Z h0 t k .byte (6 : Int32) [(.int (c0.toInt8.toInt32)), (.int ((c0 >>> ((8 : Int32) &&& 31)).toInt8.toInt32)), (.int (c1.toInt8.toInt32)), (.int ((c1 >>> ((8 : Int32) &&& 31)).toInt8.toInt32)), (.int (c2.toInt8.toInt32)), (.int ((c2 >>> ((8 : Int32) &&& 31)).toInt8.toInt32))] (.int (0 : Int32))) (hc2 : own_ch c2) :
    own_Met l Z (⟨"java/lang/StringUTF16", "getChar", "([BI)C"⟩ : MethodName) jdk_52_method_5_code 2 (some .char) [] ({ frames := 0, cells := 0, slots := 0, locals := 0 } : Room) #[(.ref t), (.int (2 : Int32))] h0 (fun v h L => v = some (.int c2) ∧ Fr n0 L ∧ h = h0) := by
  refine own_body own_pn_22 ?_
  intro p e s m below meth c s₁ hx hby hml hown hnm hret hlk X0 hZ e0
  replace hown : s.vm.findClass "java/lang/StringUTF16" = some m.cls := hown
  have N0 := Fr.nil n0
  have K0 := Keep.refl h0 []
  refine oS (fun _ k => castTop (own_ef_rm_gc_3_2 m t) k) ?_
  show own_go _ _ _ _ _ _ _ (s₁.setTop (mkF m 0 #[.val (.ref t), .val (.int (2 : Int32))] []))
  obtain ⟨T106, X106, e106, st106⟩ := getS2 X0 hx hZ hown (host := "") (Or.inl (ow hw 94 rfl)) Via.refl e0 (hS.2.2.2.2.1.ext O0.2) (g := (mkF m 0 #[.val (.ref t), .val (.int (2 : Int32))] [])) rfl (hb hby d22_0)
  refine oS st106 ?_
  show own_go _ _ _ _ _ _ _ (T106.setTop (mkF m 3 #[.val (.ref t), .val (.int (2 : Int32))] [(.int (1 : Int32))]))
  refine oS (fun _ k => XS.ifYes X106.here hx rfl (pc0 := 3) (pc' := 28) rfl (hb hby d22_3) rfl (by decide) (by decide) (by decide) k) ?_
  refine oS (fun _ k => XS.iloadN X106.here hx rfl (hb hby d22_28) rfl k) ?_
  refine oS (fun _ k => XS.iconst X106.here hx rfl (hb hby d22_29) k) ?_
  refine oS (fun _ k => XS.ishl X106.here hx rfl (hb hby d22_30) rfl k) ?_
  show own_go _ _ _ _ _ _ _ (T106.setTop (mkF m 31 #[.val (.ref t), .val (.int (2 : Int32))] [(.int ((2 : Int32) <<< ((1 : Int32) &&& 31)))]))
  rw [(by decide : ((2 : Int32) <<< ((1 : Int32) &&& 31)) = (4 : Int32))]
  show own_go _ _ _ _ _ _ _ (T106.setTop (mkF m 31 #[.val (.ref t), .val (.int (2 : Int32))] [(.int (4 : Int32))]))
  refine oS (fun _ k => XS.istoreN X106.here hx rfl (hb hby d22_31) rfl (l' := #[.val (.ref t), .val (.int (4 : Int32))]) rfl k) ?_
  refine oS (fun _ k => XS.aloadN X106.here hx rfl (hb hby d22_32) rfl rfl k) ?_
  refine oS (fun _ k => XS.iloadN X106.here hx rfl (hb hby d22_33) rfl k) ?_
  refine oS (fun _ k => XS.iinc X106.here hx rfl (hb hby d22_34) rfl (l' := #[.val (.ref t), .val (.int (5 : Int32))]) rfl k) ?_
  show own_go _ _ _ _ _ _ _ (T106.setTop (mkF m 37 #[.val (.ref t), .val (.int (5 : Int32))] [(.int (4 : Int32)), (.ref t)]))
  refine oS (own_getB X106 hx hZ e106 V1 (j := (4 : Int32)) (by decide) (v := (.int (c2.toInt8.toInt32))) rfl (g := (mkF m 37 #[.val (.ref t), .val (.int (5 : Int32))] [(.int (4 : Int32)), (.ref t)])) rfl rfl (hb hby d22_37)) ?_
  show own_go _ _ _ _ _ _ _ (T106.setTop (mkF m 38 #[.val (.ref t), .val (.int (5 : Int32))] [(.int (c2.toInt8.toInt32))]))
  refine oS (fun _ k => XS.sipush X106.here hx rfl (hb hby d22_38) k) ?_
  refine oS (fun _ k => XS.iand X106.here hx rfl (hb hby d22_41) rfl k) ?_
  show own_go _ _ _ _ _ _ _ (T106.setTop (mkF m 42 #[.val (.ref t), .val (.int (5 : Int32))] [(.int ((c2.toInt8.toInt32) &&& (255 : Int32)))]))
  obtain ⟨T107, X107, e107, st107⟩ := getS2 X106 hx hZ hown (host := "") (Or.inl (ow hw 95 rfl)) Via.refl e106 (hS.2.2.2.2.2.1.ext O0.2) (g := (mkF m 42 #[.val (.ref t), .val (.int (5 : Int32))] [(.int ((c2.toInt8.toInt32) &&& (255 : Int32)))])) rfl (hb hby d22_42)
  refine oS st107 ?_
  show own_go _ _ _ _ _ _ _ (T107.setTop (mkF m 45 #[.val (.ref t), .val (.int (5 : Int32))] [(.int (0 : Int32)), (.int ((c2.toInt8.toInt32) &&& (255 : Int32)))]))
  refine oS (fun _ k => XS.ishl X107.here hx rfl (hb hby d22_45) rfl k) ?_
  refine oS (fun _ k => XS.aloadN X107.here hx rfl (hb hby d22_46) rfl rfl k) ?_
  refine oS (fun _ k => XS.iloadN X107.here hx rfl (hb hby d22_47) rfl k) ?_
  show own_go _ _ _ _ _ _ _ (T107.setTop (mkF m 48 #[.val (.ref t), .val (.int (5 : Int32))] [(.int (5 : Int32)), (.ref t), (.int (((c2.toInt8.toInt32) &&& (255 : Int32)) <<< ((0 : Int32) &&& 31)))]))
  refine oS (own_getB X107 hx hZ e107 V1 (j := (5 : Int32)) (by decide) (v := (.int ((c2 >>> ((8 : Int32) &&& 31)).toInt8.toInt32))) rfl (g := (mkF m 48 #[.val (.ref t), .val (.int (5 : Int32))] [(.int (5 : Int32)), (.ref t), (.int (((c2.toInt8.toInt32) &&& (255 : Int32)) <<< ((0 : Int32) &&& 31)))])) rfl rfl (hb hby d22_48)) ?_
  show own_go _ _ _ _ _ _ _ (T107.setTop (mkF m 49 #[.val (.ref t), .val (.int (5 : Int32))] [(.int ((c2 >>> ((8 : Int32) &&& 31)).toInt8.toInt32)), (.int (((c2.toInt8.toInt32) &&& (255 : Int32)) <<< ((0 : Int32) &&& 31)))]))
  refine oS (fun _ k => XS.sipush X107.here hx rfl (hb hby d22_49) k) ?_
  refine oS (fun _ k => XS.iand X107.here hx rfl (hb hby d22_52) rfl k) ?_
  show own_go _ _ _ _ _ _ _ (T107.setTop (mkF m 53 #[.val (.ref t), .val (.int (5 : Int32))] [(.int (((c2 >>> ((8 : Int32) &&& 31)).toInt8.toInt32) &&& (255 : Int32))), (.int (((c2.toInt8.toInt32) &&& (255 : Int32)) <<< ((0 : Int32) &&& 31)))]))
  obtain ⟨T108, X108, e108, st108⟩ := getS2 X107 hx hZ hown (host := "") (Or.inl (ow hw 96 rfl)) Via.refl e107 (hS.2.2.2.2.2.2.ext O0.2) (g := (mkF m 53 #[.val (.ref t), .val (.int (5 : Int32))] [(.int (((c2 >>> ((8 : Int32) &&& 31)).toInt8.toInt32) &&& (255 : Int32))), (.int (((c2.toInt8.toInt32) &&& (255 : Int32)) <<< ((0 : Int32) &&& 31)))])) rfl (hb hby d22_53)
  refine oS st108 ?_
  show own_go _ _ _ _ _ _ _ (T108.setTop (mkF m 56 #[.val (.ref t), .val (.int (5 : Int32))] [(.int (8 : Int32)), (.int (((c2 >>> ((8 : Int32) &&& 31)).toInt8.toInt32) &&& (255 : Int32))), (.int (((c2.toInt8.toInt32) &&& (255 : Int32)) <<< ((0 : Int32) &&& 31)))]))
  refine oS (fun _ k => XS.ishl X108.here hx rfl (hb hby d22_56) rfl k) ?_
  refine oS (fun _ k => XS.ior X108.here hx rfl (hb hby d22_57) rfl k) ?_
  refine oS (fun _ k => XS.i2c X108.here hx rfl (hb hby d22_58) rfl k) ?_
  show own_go _ _ _ _ _ _ _ (T108.setTop (mkF m 59 #[.val (.ref t), .val (.int (5 : Int32))] [(.int (((((c2.toInt8.toInt32) &&& (255 : Int32)) <<< ((0 : Int32) &&& 31)) ||| ((((c2 >>> ((8 : Int32) &&& 31)).toInt8.toInt32) &&& (255 : Int32)) <<< ((8 : Int32) &&& 31))).toUInt32.toUInt16.toUInt32.toInt32))]))
  have pq : (((((c2.toInt8.toInt32) &&& (255 : Int32)) <<< ((0 : Int32) &&& 31)) ||| ((((c2 >>> ((8 : Int32) &&& 31)).toInt8.toInt32) &&& (255 : Int32)) <<< ((8 : Int32) &&& 31))).toUInt32.toUInt16.toUInt32.toInt32) = c2 := StrChars.pair_says hc2.1 hc2.2
  rw [pq]
  show own_go _ _ _ _ _ _ _ (T108.setTop (mkF m 59 #[.val (.ref t), .val (.int (5 : Int32))] [(.int c2)]))
  exact own_retN X108 hx hlk (t := .char) hret (by simp) (StrChars.narrow_ch hc2.1 hc2.2) (hb hby d22_59) (by decide) (by decide) (⟨rfl, N0, e108⟩)
theorem own_ef_rm_uch_3_2 (m : MethodId) (t : Addr) : entryFrame m #[(.ref t), (.int (2 : Int32))] 2 = mkF m 0 #[.val (.ref t), .val (.int (2 : Int32))] [] := by first | (simp [entryFrame, mkF, argsToLocals, Value.category]; done) | rfl
set_option maxRecDepth 65536 in
set_option maxHeartbeats 40000000 in
theorem rm_uch_3_2 (l : Launch) (Z : State) (a0 : Array Value) (hw : ∀ d ∈ tables_1, d.before a0 Z = true) (t : Addr) (k : ClassId) (c0 c1 c2 : Int32) (zC : Int32) (vS : Value) (h0 : Heap) (n0 : Nat) (O0 : Old Z n0 h0) (hS : own_S Z zC vS) (V1 : Arv Z h0 t k .byte (6 : Int32) [(.int (c0.toInt8.toInt32)), (.int ((c0 >>> ((8 : Int32) &&& 31)).toInt8.toInt32)), (.int (c1.toInt8.toInt32)), (.int ((c1 >>> ((8 : Int32) &&& 31)).toInt8.toInt32)), (.int (c2.toInt8.toInt32)), (.int ((c2 >>> ((8 : Int32) &&& 31)).toInt8.toInt32))] (.int (0 : Int32))) (hc2 : own_ch c2) :
    own_Met l Z (⟨"java/lang/StringUTF16", "charAt", "([BI)C"⟩ : MethodName) jdk_52_method_83_code 2 (some .char) [] ({ frames := 3, cells := 0, slots := 0, locals := 48 } : Room) #[(.ref t), (.int (2 : Int32))] h0 (fun v h L => v = some (.int c2) ∧ Fr n0 L ∧ h = h0) := by
  refine own_body own_pn_23 ?_
  intro p e s m below meth c s₁ hx hby hml hown hnm hret hlk X0 hZ e0
  replace hown : s.vm.findClass "java/lang/StringUTF16" = some m.cls := hown
  have N0 := Fr.nil n0
  have K0 := Keep.refl h0 []
  refine oS (fun _ k => castTop (own_ef_rm_uch_3_2 m t) k) ?_
  show own_go _ _ _ _ _ _ _ (s₁.setTop (mkF m 0 #[.val (.ref t), .val (.int (2 : Int32))] []))
  refine oS (fun _ k => XS.iloadN X0.here hx rfl (hb hby d23_0) rfl k) ?_
  refine oS (fun _ k => XS.aloadN X0.here hx rfl (hb hby d23_1) rfl rfl k) ?_
  show own_go _ _ _ _ _ _ _ (s₁.setTop (mkF m 2 #[.val (.ref t), .val (.int (2 : Int32))] [(.ref t), (.int (2 : Int32))]))
  obtain ⟨v109, T109, L109, X109, hQ109, st109⟩ := own_callS X0 hx hZ (argsL := [(.int (2 : Int32)), (.ref t)]) (rest := []) (rm_uck_3_2 l Z a0 hw t k _ zC vS h0 n0 O0 hS V1) hown (ow hw 103 rfl) (ow hw 104 rfl) (ow hw 38 rfl) (ow hw 105 rfl) (by decide) e0 (g := (mkF m 2 #[.val (.ref t), .val (.int (2 : Int32))] [(.ref t), (.int (2 : Int32))])) rfl (by rw [hml]; rfl) (lenOf own_pd__28I_5bB_29V rfl) rfl (W := 0) (by show 2 * 0 + _ ≤ _; exact Nat.le_of_eq rfl) (hb hby d23_2) (by decide) (by decide) (by decide) (by decide)
  obtain ⟨rfl, Nq109, eq109⟩ := hQ109
  have N109 := Fr.app N0 Nq109
  refine oS st109 ?_
  show own_go _ _ _ _ _ _ _ (T109.setTop (mkF m 5 #[.val (.ref t), .val (.int (2 : Int32))] []))
  refine oS (fun _ k => XS.aloadN X109.here hx rfl (hb hby d23_5) rfl rfl k) ?_
  refine oS (fun _ k => XS.iloadN X109.here hx rfl (hb hby d23_6) rfl k) ?_
  show own_go _ _ _ _ _ _ _ (T109.setTop (mkF m 7 #[.val (.ref t), .val (.int (2 : Int32))] [(.int (2 : Int32)), (.ref t)]))
  obtain ⟨v110, T110, L110, X110, hQ110, st110⟩ := own_callS X109 hx hZ (argsL := [(.ref t), (.int (2 : Int32))]) (rest := []) (rm_gc_3_2 l Z a0 hw t k c0 c1 c2 zC vS h0 n0 O0 hS V1 hc2) hown (ow hw 97 rfl) (ow hw 98 rfl) (ow hw 38 rfl) (ow hw 99 rfl) (by decide) eq109 (g := (mkF m 7 #[.val (.ref t), .val (.int (2 : Int32))] [(.int (2 : Int32)), (.ref t)])) rfl (by rw [hml]; rfl) (lenOf own_pd__28_5bBI_29C rfl) rfl (W := 0) (by show 2 * 0 + _ ≤ _; exact Nat.le_of_eq rfl) (hb hby d23_7) (by decide) (by decide) (by decide) (by decide)
  obtain ⟨rfl, Nq110, eq110⟩ := hQ110
  have N110 := Fr.app N109 Nq110
  refine oS st110 ?_
  show own_go _ _ _ _ _ _ _ (T110.setTop (mkF m 10 #[.val (.ref t), .val (.int (2 : Int32))] [(.int c2)]))
  exact own_retN X110 hx hlk (t := .char) hret (by simp) (StrChars.narrow_ch hc2.1 hc2.2) (hb hby d23_10) (by decide) (by decide) (⟨rfl, N110, eq110⟩)
theorem own_ef_rm_chL_3_2 (m : MethodId) (a1 : Addr) : entryFrame m #[(.ref a1), (.int (2 : Int32))] 2 = mkF m 0 #[.val (.ref a1), .val (.int (2 : Int32))] [] := by first | (simp [entryFrame, mkF, argsToLocals, Value.category]; done) | rfl
set_option maxRecDepth 65536 in
set_option maxHeartbeats 40000000 in
theorem rm_chL_3_2 (l : Launch) (Z : State) (a0 : Array Value) (hw : ∀ d ∈ tables_1, d.before a0 Z = true) (a1 t : Addr) (k : ClassId) (c0 c1 c2 : Int32) (zC : Int32) (vS : Value) (h0 : Heap) (n0 : Nat) (O0 : Old Z n0 h0) (hS : own_S Z zC vS) (E_a1 : Exa Z h0 a1 "java/lang/String") (F1 : Fld Z h0 a1 "java/lang/String" "value" "[B" (.ref t)) (F2 : Fld Z h0 a1 "java/lang/String" "coder" "B" (.int (0 : Int32))) (V1 : Arv Z h0 t k .byte (3 : Int32) [(.int (c0.toInt8.toInt32)), (.int (c1.toInt8.toInt32)), (.int (c2.toInt8.toInt32))] (.int (0 : Int32))) (hc2 : own_ch c2) (hl : ¬ (255 : Int32) < c2) :
    own_Met l Z (⟨"java/lang/String", "charAt", "(I)C"⟩ : MethodName) jdk_42_method_56_code 2 (some .char) [] ({ frames := 4, cells := 0, slots := 0, locals := 64 } : Room) #[(.ref a1), (.int (2 : Int32))] h0 (fun v h L => v = some (.int c2) ∧ Fr n0 L ∧ h = h0) := by
  refine own_body own_pn_13 ?_
  intro p e s m below meth c s₁ hx hby hml hown hnm hret hlk X0 hZ e0
  replace hown : s.vm.findClass "java/lang/String" = some m.cls := hown
  have N0 := Fr.nil n0
  have K0 := Keep.refl h0 []
  refine oS (fun _ k => castTop (own_ef_rm_chL_3_2 m a1) k) ?_
  show own_go _ _ _ _ _ _ _ (s₁.setTop (mkF m 0 #[.val (.ref a1), .val (.int (2 : Int32))] []))
  refine oS (fun _ k => XS.aloadN X0.here hx rfl (hb hby d13_0) rfl rfl k) ?_
  show own_go _ _ _ _ _ _ _ (s₁.setTop (mkF m 1 #[.val (.ref a1), .val (.int (2 : Int32))] [(.ref a1)]))
  obtain ⟨v111, T111, L111, X111, hQ111, st111⟩ := own_callV X0 hx hZ (argsL := []) (rest := []) (rm_isLatin1_0 l Z a0 hw a1 zC vS h0 n0 O0 hS F2) hown (ow hw 64 rfl) (ow hw 65 rfl) (notFace_of_selects (args := #[]) (mvT hZ (ow hw 67 rfl))) (ow hw 67 rfl) (ow hw 66 rfl) (ow hw 6 rfl) (ow hw 68 rfl) (by decide) e0 E_a1 (g := (mkF m 1 #[.val (.ref a1), .val (.int (2 : Int32))] [(.ref a1)])) rfl (by rw [hml]; rfl) (lenOf own_pd__28_29Z rfl) rfl (W := 0) (by show 2 * 0 + _ ≤ _; exact Nat.le_of_eq rfl) (hb hby d13_1) (by decide) (by decide) (by decide) (by decide)
  obtain ⟨rfl, Nq111, eq111⟩ := hQ111
  have N111 := Fr.app N0 Nq111
  refine oS st111 ?_
  show own_go _ _ _ _ _ _ _ (T111.setTop (mkF m 4 #[.val (.ref a1), .val (.int (2 : Int32))] [(.int (1 : Int32))]))
  refine oS (fun _ k => XS.ifNo X111.here hx rfl (hb hby d13_4) rfl (by decide) k) ?_
  refine oS (fun _ k => XS.aloadN X111.here hx rfl (hb hby d13_7) rfl rfl k) ?_
  show own_go _ _ _ _ _ _ _ (T111.setTop (mkF m 8 #[.val (.ref a1), .val (.int (2 : Int32))] [(.ref a1)]))
  obtain ⟨T112, X112, e112, st112⟩ := getF X111 hx hZ hown (host := "") (Or.inl (ow hw 24 rfl)) Via.refl eq111 F1 (g := (mkF m 8 #[.val (.ref a1), .val (.int (2 : Int32))] [(.ref a1)])) rfl rfl (hb hby d13_8)
  refine oS st112 ?_
  show own_go _ _ _ _ _ _ _ (T112.setTop (mkF m 11 #[.val (.ref a1), .val (.int (2 : Int32))] [(.ref t)]))
  refine oS (fun _ k => XS.iloadN X112.here hx rfl (hb hby d13_11) rfl k) ?_
  show own_go _ _ _ _ _ _ _ (T112.setTop (mkF m 12 #[.val (.ref a1), .val (.int (2 : Int32))] [(.int (2 : Int32)), (.ref t)]))
  obtain ⟨v113, T113, L113, X113, hQ113, st113⟩ := own_callS X112 hx hZ (argsL := [(.ref t), (.int (2 : Int32))]) (rest := []) (rm_lch_3_2 l Z a0 hw t k c0 c1 c2 zC vS h0 n0 O0 hS V1 hc2 hl) hown (ow hw 69 rfl) (ow hw 70 rfl) (ow hw 71 rfl) (ow hw 72 rfl) (by decide) e112 (g := (mkF m 12 #[.val (.ref a1), .val (.int (2 : Int32))] [(.int (2 : Int32)), (.ref t)])) rfl (by rw [hml]; rfl) (lenOf own_pd__28_5bBI_29C rfl) rfl (W := 0) (by show 2 * 0 + _ ≤ _; exact Nat.le_of_eq rfl) (hb hby d13_12) (by decide) (by decide) (by decide) (by decide)
  obtain ⟨rfl, Nq113, eq113⟩ := hQ113
  have N113 := Fr.app N111 Nq113
  refine oS st113 ?_
  show own_go _ _ _ _ _ _ _ (T113.setTop (mkF m 15 #[.val (.ref a1), .val (.int (2 : Int32))] [(.int c2)]))
  exact own_retN X113 hx hlk (t := .char) hret (by simp) (StrChars.narrow_ch hc2.1 hc2.2) (hb hby d13_15) (by decide) (by decide) (⟨rfl, N113, eq113⟩)
theorem own_ef_rm_chW_3_2 (m : MethodId) (a1 : Addr) : entryFrame m #[(.ref a1), (.int (2 : Int32))] 2 = mkF m 0 #[.val (.ref a1), .val (.int (2 : Int32))] [] := by first | (simp [entryFrame, mkF, argsToLocals, Value.category]; done) | rfl
set_option maxRecDepth 65536 in
set_option maxHeartbeats 40000000 in
theorem rm_chW_3_2 (l : Launch) (Z : State) (a0 : Array Value) (hw : ∀ d ∈ tables_1, d.before a0 Z = true) (a1 t : Addr) (k : ClassId) (c0 c1 c2 : Int32) (zC : Int32) (vS : Value) (h0 : Heap) (n0 : Nat) (O0 : Old Z n0 h0) (hS : own_S Z zC vS) (E_a1 : Exa Z h0 a1 "java/lang/String") (F1 : Fld Z h0 a1 "java/lang/String" "value" "[B" (.ref t)) (F2 : Fld Z h0 a1 "java/lang/String" "coder" "B" (.int (1 : Int32))) (V1 : Arv Z h0 t k .byte (6 : Int32) [(.int (c0.toInt8.toInt32)), (.int ((c0 >>> ((8 : Int32) &&& 31)).toInt8.toInt32)), (.int (c1.toInt8.toInt32)), (.int ((c1 >>> ((8 : Int32) &&& 31)).toInt8.toInt32)), (.int (c2.toInt8.toInt32)), (.int ((c2 >>> ((8 : Int32) &&& 31)).toInt8.toInt32))] (.int (0 : Int32))) (hc2 : own_ch c2) :
    own_Met l Z (⟨"java/lang/String", "charAt", "(I)C"⟩ : MethodName) jdk_42_method_56_code 2 (some .char) [] ({ frames := 4, cells := 0, slots := 0, locals := 64 } : Room) #[(.ref a1), (.int (2 : Int32))] h0 (fun v h L => v = some (.int c2) ∧ Fr n0 L ∧ h = h0) := by
  refine own_body own_pn_13 ?_
  intro p e s m below meth c s₁ hx hby hml hown hnm hret hlk X0 hZ e0
  replace hown : s.vm.findClass "java/lang/String" = some m.cls := hown
  have N0 := Fr.nil n0
  have K0 := Keep.refl h0 []
  refine oS (fun _ k => castTop (own_ef_rm_chW_3_2 m a1) k) ?_
  show own_go _ _ _ _ _ _ _ (s₁.setTop (mkF m 0 #[.val (.ref a1), .val (.int (2 : Int32))] []))
  refine oS (fun _ k => XS.aloadN X0.here hx rfl (hb hby d13_0) rfl rfl k) ?_
  show own_go _ _ _ _ _ _ _ (s₁.setTop (mkF m 1 #[.val (.ref a1), .val (.int (2 : Int32))] [(.ref a1)]))
  obtain ⟨v114, T114, L114, X114, hQ114, st114⟩ := own_callV X0 hx hZ (argsL := []) (rest := []) (rm_isLatin1_1 l Z a0 hw a1 zC vS h0 n0 O0 hS F2) hown (ow hw 64 rfl) (ow hw 65 rfl) (notFace_of_selects (args := #[]) (mvT hZ (ow hw 67 rfl))) (ow hw 67 rfl) (ow hw 66 rfl) (ow hw 6 rfl) (ow hw 68 rfl) (by decide) e0 E_a1 (g := (mkF m 1 #[.val (.ref a1), .val (.int (2 : Int32))] [(.ref a1)])) rfl (by rw [hml]; rfl) (lenOf own_pd__28_29Z rfl) rfl (W := 0) (by show 2 * 0 + _ ≤ _; exact Nat.le_of_eq rfl) (hb hby d13_1) (by decide) (by decide) (by decide) (by decide)
  obtain ⟨rfl, Nq114, eq114⟩ := hQ114
  have N114 := Fr.app N0 Nq114
  refine oS st114 ?_
  show own_go _ _ _ _ _ _ _ (T114.setTop (mkF m 4 #[.val (.ref a1), .val (.int (2 : Int32))] [(.int (0 : Int32))]))
  refine oS (fun _ k => XS.ifYes X114.here hx rfl (pc0 := 4) (pc' := 16) rfl (hb hby d13_4) rfl (by decide) (by decide) (by decide) k) ?_
  refine oS (fun _ k => XS.aloadN X114.here hx rfl (hb hby d13_16) rfl rfl k) ?_
  show own_go _ _ _ _ _ _ _ (T114.setTop (mkF m 17 #[.val (.ref a1), .val (.int (2 : Int32))] [(.ref a1)]))
  obtain ⟨T115, X115, e115, st115⟩ := getF X114 hx hZ hown (host := "") (Or.inl (ow hw 24 rfl)) Via.refl eq114 F1 (g := (mkF m 17 #[.val (.ref a1), .val (.int (2 : Int32))] [(.ref a1)])) rfl rfl (hb hby d13_17)
  refine oS st115 ?_
  show own_go _ _ _ _ _ _ _ (T115.setTop (mkF m 20 #[.val (.ref a1), .val (.int (2 : Int32))] [(.ref t)]))
  refine oS (fun _ k => XS.iloadN X115.here hx rfl (hb hby d13_20) rfl k) ?_
  show own_go _ _ _ _ _ _ _ (T115.setTop (mkF m 21 #[.val (.ref a1), .val (.int (2 : Int32))] [(.int (2 : Int32)), (.ref t)]))
  obtain ⟨v116, T116, L116, X116, hQ116, st116⟩ := own_callS X115 hx hZ (argsL := [(.ref t), (.int (2 : Int32))]) (rest := []) (rm_uch_3_2 l Z a0 hw t k c0 c1 c2 zC vS h0 n0 O0 hS V1 hc2) hown (ow hw 100 rfl) (ow hw 101 rfl) (ow hw 38 rfl) (ow hw 102 rfl) (by decide) e115 (g := (mkF m 21 #[.val (.ref a1), .val (.int (2 : Int32))] [(.int (2 : Int32)), (.ref t)])) rfl (by rw [hml]; rfl) (lenOf own_pd__28_5bBI_29C rfl) rfl (W := 0) (by show 2 * 0 + _ ≤ _; exact Nat.le_of_eq rfl) (hb hby d13_21) (by decide) (by decide) (by decide) (by decide)
  obtain ⟨rfl, Nq116, eq116⟩ := hQ116
  have N116 := Fr.app N114 Nq116
  refine oS st116 ?_
  show own_go _ _ _ _ _ _ _ (T116.setTop (mkF m 24 #[.val (.ref a1), .val (.int (2 : Int32))] [(.int c2)]))
  exact own_retN X116 hx hlk (t := .char) hret (by simp) (StrChars.narrow_ch hc2.1 hc2.2) (hb hby d13_24) (by decide) (by decide) (⟨rfl, N116, eq116⟩)
theorem d5_0 : decode prog_50_method_2_code 0 = .ok (.aload_n 0, 1) := by decide +kernel
theorem d5_1 : decode prog_50_method_2_code 1 = .ok (.ifnull 20, 3) := by decide +kernel
theorem d5_21 : decode prog_50_method_2_code 21 = .ok (.aconst_null, 1) := by decide +kernel
theorem d5_22 : decode prog_50_method_2_code 22 = .ok (.areturn, 1) := by decide +kernel
theorem own_pn_5 : plainFor (⟨"com/example/lynceus/lynceus/probe/HeaderValue", "keepable", "(Ljava/lang/String;)Ljava/lang/String;"⟩ : MethodName) = true := plainFor_of_name (show plainName "com/example/lynceus/lynceus/probe/HeaderValue" = true by first | (simp [plainName, overriddenIn]; done) | decide +kernel)
theorem own_ef_rm_kpN (m : MethodId)  : entryFrame m #[.null] 3 = mkF m 0 #[.val .null, .unset, .unset] [] := by first | (simp [entryFrame, mkF, argsToLocals, Value.category]; done) | rfl
set_option maxRecDepth 65536 in
set_option maxHeartbeats 40000000 in
theorem rm_kpN (l : Launch) (Z : State) (a0 : Array Value) (hw : ∀ d ∈ tables_1, d.before a0 Z = true)  (h0 : Heap) (n0 : Nat) (O0 : Old Z n0 h0)  :
    own_Met l Z (⟨"com/example/lynceus/lynceus/probe/HeaderValue", "keepable", "(Ljava/lang/String;)Ljava/lang/String;"⟩ : MethodName) prog_50_method_2_code 3 (some (.object "java/lang/String")) [] ({ frames := 5, cells := 0, slots := 0, locals := 84 } : Room) #[.null] h0 (fun v h L => v = some .null ∧ Fr n0 L ∧ h = h0) := by
  refine own_body own_pn_5 ?_
  intro p e s m below meth c s₁ hx hby hml hown hnm hret hlk X0 hZ e0
  replace hown : s.vm.findClass "com/example/lynceus/lynceus/probe/HeaderValue" = some m.cls := hown
  have N0 := Fr.nil n0
  have K0 := Keep.refl h0 []
  refine oS (fun _ k => castTop (own_ef_rm_kpN m ) k) ?_
  show own_go _ _ _ _ _ _ _ (s₁.setTop (mkF m 0 #[.val .null, .unset, .unset] []))
  refine oS (fun _ k => XS.aloadN X0.here hx rfl (hb hby d5_0) rfl rfl k) ?_
  show own_go _ _ _ _ _ _ _ (s₁.setTop (mkF m 1 #[.val .null, .unset, .unset] [.null]))
  refine oS (fun _ k => XS.ifnullYes X0.here hx rfl (pc0 := 1) (pc' := 21) rfl (hb hby d5_1) rfl (by decide) (by decide) k) ?_
  refine oS (fun _ k => XS.aconstNull X0.here hx rfl (hb hby d5_21) k) ?_
  show own_go _ _ _ _ _ _ _ (s₁.setTop (mkF m 22 #[.val .null, .unset, .unset] [.null]))
  exact own_retA X0 hx hlk hret rfl rfl (hb hby d5_22) (by decide) (by decide) (⟨rfl, N0, e0⟩)
theorem d5_4 : decode prog_50_method_2_code 4 = .ok (.aload_n 0, 1) := by decide +kernel
theorem d5_5 : decode prog_50_method_2_code 5 = .ok (.invokevirtual 7, 3) := by decide +kernel
theorem d5_8 : decode prog_50_method_2_code 8 = .ok (.ifCond .ne 13, 3) := by decide +kernel
theorem own_ef_rm_kpE (m : MethodId) (a1 : Addr) : entryFrame m #[(.ref a1)] 3 = mkF m 0 #[.val (.ref a1), .unset, .unset] [] := by first | (simp [entryFrame, mkF, argsToLocals, Value.category]; done) | rfl
set_option maxRecDepth 65536 in
set_option maxHeartbeats 40000000 in
theorem rm_kpE (l : Launch) (Z : State) (a0 : Array Value) (hw : ∀ d ∈ tables_1, d.before a0 Z = true) (a1 t : Addr) (k : ClassId) (h0 : Heap) (n0 : Nat) (O0 : Old Z n0 h0) (E_a1 : Exa Z h0 a1 "java/lang/String") (F1 : Fld Z h0 a1 "java/lang/String" "value" "[B" (.ref t)) (V1 : Arv Z h0 t k .byte (0 : Int32) [] (.int (0 : Int32))) :
    own_Met l Z (⟨"com/example/lynceus/lynceus/probe/HeaderValue", "keepable", "(Ljava/lang/String;)Ljava/lang/String;"⟩ : MethodName) prog_50_method_2_code 3 (some (.object "java/lang/String")) [] ({ frames := 5, cells := 0, slots := 0, locals := 84 } : Room) #[(.ref a1)] h0 (fun v h L => v = some .null ∧ Fr n0 L ∧ h = h0) := by
  refine own_body own_pn_5 ?_
  intro p e s m below meth c s₁ hx hby hml hown hnm hret hlk X0 hZ e0
  replace hown : s.vm.findClass "com/example/lynceus/lynceus/probe/HeaderValue" = some m.cls := hown
  have N0 := Fr.nil n0
  have K0 := Keep.refl h0 []
  refine oS (fun _ k => castTop (own_ef_rm_kpE m a1) k) ?_
  show own_go _ _ _ _ _ _ _ (s₁.setTop (mkF m 0 #[.val (.ref a1), .unset, .unset] []))
  refine oS (fun _ k => XS.aloadN X0.here hx rfl (hb hby d5_0) rfl rfl k) ?_
  show own_go _ _ _ _ _ _ _ (s₁.setTop (mkF m 1 #[.val (.ref a1), .unset, .unset] [(.ref a1)]))
  refine oS (fun _ k => XS.ifnullNo X0.here hx rfl (hb hby d5_1) rfl k) ?_
  refine oS (fun _ k => XS.aloadN X0.here hx rfl (hb hby d5_4) rfl rfl k) ?_
  show own_go _ _ _ _ _ _ _ (s₁.setTop (mkF m 5 #[.val (.ref a1), .unset, .unset] [(.ref a1)]))
  obtain ⟨v117, T117, L117, X117, hQ117, st117⟩ := own_callV X0 hx hZ (argsL := []) (rest := []) (rm_emp_0 l Z a0 hw a1 t k _ h0 n0 O0 F1 V1) hown (ow hw 30 rfl) (ow hw 31 rfl) (notFace_of_selects (args := #[]) (mvT hZ (ow hw 33 rfl))) (ow hw 33 rfl) (ow hw 32 rfl) (ow hw 6 rfl) (ow hw 34 rfl) (by decide) e0 E_a1 (g := (mkF m 5 #[.val (.ref a1), .unset, .unset] [(.ref a1)])) rfl (by rw [hml]; rfl) (lenOf own_pd__28_29Z rfl) rfl (W := 0) (by show 2 * 0 + _ ≤ _; exact Nat.le_of_eq rfl) (hb hby d5_5) (by decide) (by decide) (by decide) (by decide)
  obtain ⟨rfl, Nq117, eq117⟩ := hQ117
  have N117 := Fr.app N0 Nq117
  refine oS st117 ?_
  show own_go _ _ _ _ _ _ _ (T117.setTop (mkF m 8 #[.val (.ref a1), .unset, .unset] [(.int (1 : Int32))]))
  refine oS (fun _ k => XS.ifYes X117.here hx rfl (pc0 := 8) (pc' := 21) rfl (hb hby d5_8) rfl (by decide) (by decide) (by decide) k) ?_
  refine oS (fun _ k => XS.aconstNull X117.here hx rfl (hb hby d5_21) k) ?_
  show own_go _ _ _ _ _ _ _ (T117.setTop (mkF m 22 #[.val (.ref a1), .unset, .unset] [.null]))
  exact own_retA X117 hx hlk hret rfl rfl (hb hby d5_22) (by decide) (by decide) (⟨rfl, N117, eq117⟩)
theorem d5_11 : decode prog_50_method_2_code 11 = .ok (.aload_n 0, 1) := by decide +kernel
theorem d5_12 : decode prog_50_method_2_code 12 = .ok (.invokevirtual 13, 3) := by decide +kernel
theorem d5_15 : decode prog_50_method_2_code 15 = .ok (.sipush 1024, 3) := by decide +kernel
theorem d5_18 : decode prog_50_method_2_code 18 = .ok (.if_icmp .le 5, 3) := by decide +kernel
theorem d5_23 : decode prog_50_method_2_code 23 = .ok (.iconst 0, 1) := by decide +kernel
theorem d5_24 : decode prog_50_method_2_code 24 = .ok (.istore_n 1, 1) := by decide +kernel
theorem d5_25 : decode prog_50_method_2_code 25 = .ok (.iload_n 1, 1) := by decide +kernel
theorem d5_26 : decode prog_50_method_2_code 26 = .ok (.aload_n 0, 1) := by decide +kernel
theorem d5_27 : decode prog_50_method_2_code 27 = .ok (.invokevirtual 13, 3) := by decide +kernel
theorem d5_30 : decode prog_50_method_2_code 30 = .ok (.if_icmp .ge 29, 3) := by decide +kernel
theorem d5_33 : decode prog_50_method_2_code 33 = .ok (.aload_n 0, 1) := by decide +kernel
theorem d5_34 : decode prog_50_method_2_code 34 = .ok (.iload_n 1, 1) := by decide +kernel
theorem d5_35 : decode prog_50_method_2_code 35 = .ok (.invokevirtual 19, 3) := by decide +kernel
theorem d5_38 : decode prog_50_method_2_code 38 = .ok (.istore_n 2, 1) := by decide +kernel
theorem d5_39 : decode prog_50_method_2_code 39 = .ok (.iload_n 2, 1) := by decide +kernel
theorem d5_40 : decode prog_50_method_2_code 40 = .ok (.bipush 32, 2) := by decide +kernel
theorem d5_42 : decode prog_50_method_2_code 42 = .ok (.if_icmp .lt 9, 3) := by decide +kernel
theorem d5_45 : decode prog_50_method_2_code 45 = .ok (.iload_n 2, 1) := by decide +kernel
theorem d5_46 : decode prog_50_method_2_code 46 = .ok (.bipush 126, 2) := by decide +kernel
theorem d5_48 : decode prog_50_method_2_code 48 = .ok (.if_icmp .le 5, 3) := by decide +kernel
theorem d5_51 : decode prog_50_method_2_code 51 = .ok (.aconst_null, 1) := by decide +kernel
theorem d5_52 : decode prog_50_method_2_code 52 = .ok (.areturn, 1) := by decide +kernel
theorem d5_53 : decode prog_50_method_2_code 53 = .ok (.iinc 1 1, 3) := by decide +kernel
theorem d5_56 : decode prog_50_method_2_code 56 = .ok (.goto (-31), 3) := by decide +kernel
theorem d5_59 : decode prog_50_method_2_code 59 = .ok (.aload_n 0, 1) := by decide +kernel
theorem d5_60 : decode prog_50_method_2_code 60 = .ok (.areturn, 1) := by decide +kernel
theorem own_pd__28_29I : parseMethodDescriptor "()I" = some ⟨[], some .int⟩ := by decide +kernel
theorem own_pd__28I_29C : parseMethodDescriptor "(I)C" = some ⟨[.int], some .char⟩ := by decide +kernel
theorem own_ef_rm_kpL_1 (m : MethodId) (a1 : Addr) : entryFrame m #[(.ref a1)] 3 = mkF m 0 #[.val (.ref a1), .unset, .unset] [] := by first | (simp [entryFrame, mkF, argsToLocals, Value.category]; done) | rfl
set_option maxRecDepth 65536 in
set_option maxHeartbeats 40000000 in
theorem rm_kpL_1 (l : Launch) (Z : State) (a0 : Array Value) (hw : ∀ d ∈ tables_1, d.before a0 Z = true) (a1 t : Addr) (k : ClassId) (c0 : Int32) (zC : Int32) (vS : Value) (h0 : Heap) (n0 : Nat) (O0 : Old Z n0 h0) (hS : own_S Z zC vS) (E_a1 : Exa Z h0 a1 "java/lang/String") (F1 : Fld Z h0 a1 "java/lang/String" "value" "[B" (.ref t)) (F2 : Fld Z h0 a1 "java/lang/String" "coder" "B" (.int (0 : Int32))) (V1 : Arv Z h0 t k .byte (1 : Int32) [(.int (c0.toInt8.toInt32))] (.int (0 : Int32))) (hc0 : own_ch c0) (hl0 : ¬ (255 : Int32) < c0) :
    own_Met l Z (⟨"com/example/lynceus/lynceus/probe/HeaderValue", "keepable", "(Ljava/lang/String;)Ljava/lang/String;"⟩ : MethodName) prog_50_method_2_code 3 (some (.object "java/lang/String")) [] ({ frames := 5, cells := 0, slots := 0, locals := 84 } : Room) #[(.ref a1)] h0 (fun v h L => ∃ w, v = some w ∧ Fr n0 L ∧ h = h0 ∧ ((own_ok c0) → w = .ref a1) ∧ (¬ (own_ok c0) → w = .null)) := by
  refine own_body own_pn_5 ?_
  intro p e s m below meth c s₁ hx hby hml hown hnm hret hlk X0 hZ e0
  replace hown : s.vm.findClass "com/example/lynceus/lynceus/probe/HeaderValue" = some m.cls := hown
  have N0 := Fr.nil n0
  have K0 := Keep.refl h0 []
  refine oS (fun _ k => castTop (own_ef_rm_kpL_1 m a1) k) ?_
  show own_go _ _ _ _ _ _ _ (s₁.setTop (mkF m 0 #[.val (.ref a1), .unset, .unset] []))
  refine oS (fun _ k => XS.aloadN X0.here hx rfl (hb hby d5_0) rfl rfl k) ?_
  show own_go _ _ _ _ _ _ _ (s₁.setTop (mkF m 1 #[.val (.ref a1), .unset, .unset] [(.ref a1)]))
  refine oS (fun _ k => XS.ifnullNo X0.here hx rfl (hb hby d5_1) rfl k) ?_
  refine oS (fun _ k => XS.aloadN X0.here hx rfl (hb hby d5_4) rfl rfl k) ?_
  show own_go _ _ _ _ _ _ _ (s₁.setTop (mkF m 5 #[.val (.ref a1), .unset, .unset] [(.ref a1)]))
  obtain ⟨v118, T118, L118, X118, hQ118, st118⟩ := own_callV X0 hx hZ (argsL := []) (rest := []) (rm_emp_1 l Z a0 hw a1 t k _ h0 n0 O0 F1 V1) hown (ow hw 30 rfl) (ow hw 31 rfl) (notFace_of_selects (args := #[]) (mvT hZ (ow hw 33 rfl))) (ow hw 33 rfl) (ow hw 32 rfl) (ow hw 6 rfl) (ow hw 34 rfl) (by decide) e0 E_a1 (g := (mkF m 5 #[.val (.ref a1), .unset, .unset] [(.ref a1)])) rfl (by rw [hml]; rfl) (lenOf own_pd__28_29Z rfl) rfl (W := 0) (by show 2 * 0 + _ ≤ _; exact Nat.le_of_eq rfl) (hb hby d5_5) (by decide) (by decide) (by decide) (by decide)
  obtain ⟨rfl, Nq118, eq118⟩ := hQ118
  have N118 := Fr.app N0 Nq118
  refine oS st118 ?_
  show own_go _ _ _ _ _ _ _ (T118.setTop (mkF m 8 #[.val (.ref a1), .unset, .unset] [(.int (0 : Int32))]))
  refine oS (fun _ k => XS.ifNo X118.here hx rfl (hb hby d5_8) rfl (by decide) k) ?_
  refine oS (fun _ k => XS.aloadN X118.here hx rfl (hb hby d5_11) rfl rfl k) ?_
  show own_go _ _ _ _ _ _ _ (T118.setTop (mkF m 12 #[.val (.ref a1), .unset, .unset] [(.ref a1)]))
  obtain ⟨v119, T119, L119, X119, hQ119, st119⟩ := own_callV X118 hx hZ (argsL := []) (rest := []) (rm_len_L_1 l Z a0 hw a1 t k _ zC vS h0 n0 O0 hS E_a1 F1 F2 V1) hown (ow hw 49 rfl) (ow hw 50 rfl) (notFace_of_selects (args := #[]) (mvT hZ (ow hw 52 rfl))) (ow hw 52 rfl) (ow hw 51 rfl) (ow hw 6 rfl) (ow hw 53 rfl) (by decide) eq118 E_a1 (g := (mkF m 12 #[.val (.ref a1), .unset, .unset] [(.ref a1)])) rfl (by rw [hml]; rfl) (lenOf own_pd__28_29I rfl) rfl (W := 0) (by show 2 * 0 + _ ≤ _; exact Nat.le_of_eq rfl) (hb hby d5_12) (by decide) (by decide) (by decide) (by decide)
  obtain ⟨rfl, Nq119, eq119⟩ := hQ119
  have N119 := Fr.app N118 Nq119
  refine oS st119 ?_
  show own_go _ _ _ _ _ _ _ (T119.setTop (mkF m 15 #[.val (.ref a1), .unset, .unset] [(.int (1 : Int32))]))
  refine oS (fun _ k => XS.sipush X119.here hx rfl (hb hby d5_15) k) ?_
  show own_go _ _ _ _ _ _ _ (T119.setTop (mkF m 18 #[.val (.ref a1), .unset, .unset] [(.int (1024 : Int32)), (.int (1 : Int32))]))
  refine oS (fun _ k => XS.icmpYes X119.here hx rfl (pc0 := 18) (pc' := 23) rfl (hb hby d5_18) rfl (by decide) (by decide) (by decide) k) ?_
  refine oS (fun _ k => XS.iconst X119.here hx rfl (hb hby d5_23) k) ?_
  refine oS (fun _ k => XS.istoreN X119.here hx rfl (hb hby d5_24) rfl (l' := #[.val (.ref a1), .val (.int (0 : Int32)), .unset]) rfl k) ?_
  refine oS (fun _ k => XS.iloadN X119.here hx rfl (hb hby d5_25) rfl k) ?_
  refine oS (fun _ k => XS.aloadN X119.here hx rfl (hb hby d5_26) rfl rfl k) ?_
  show own_go _ _ _ _ _ _ _ (T119.setTop (mkF m 27 #[.val (.ref a1), .val (.int (0 : Int32)), .unset] [(.ref a1), (.int (0 : Int32))]))
  obtain ⟨v120, T120, L120, X120, hQ120, st120⟩ := own_callV X119 hx hZ (argsL := []) (rest := [(.int (0 : Int32))]) (rm_len_L_1 l Z a0 hw a1 t k _ zC vS h0 n0 O0 hS E_a1 F1 F2 V1) hown (ow hw 49 rfl) (ow hw 50 rfl) (notFace_of_selects (args := #[]) (mvT hZ (ow hw 52 rfl))) (ow hw 52 rfl) (ow hw 51 rfl) (ow hw 6 rfl) (ow hw 53 rfl) (by decide) eq119 E_a1 (g := (mkF m 27 #[.val (.ref a1), .val (.int (0 : Int32)), .unset] [(.ref a1), (.int (0 : Int32))])) rfl (by rw [hml]; rfl) (lenOf own_pd__28_29I rfl) rfl (W := 1) (by show 2 * 0 + _ ≤ _; exact Nat.le_of_eq rfl) (hb hby d5_27) (by decide) (by decide) (by decide) (by decide)
  obtain ⟨rfl, Nq120, eq120⟩ := hQ120
  have N120 := Fr.app N119 Nq120
  refine oS st120 ?_
  show own_go _ _ _ _ _ _ _ (T120.setTop (mkF m 30 #[.val (.ref a1), .val (.int (0 : Int32)), .unset] [(.int (1 : Int32)), (.int (0 : Int32))]))
  refine oS (fun _ k => XS.icmpNo X120.here hx rfl (hb hby d5_30) rfl (by decide) k) ?_
  refine oS (fun _ k => XS.aloadN X120.here hx rfl (hb hby d5_33) rfl rfl k) ?_
  refine oS (fun _ k => XS.iloadN X120.here hx rfl (hb hby d5_34) rfl k) ?_
  show own_go _ _ _ _ _ _ _ (T120.setTop (mkF m 35 #[.val (.ref a1), .val (.int (0 : Int32)), .unset] [(.int (0 : Int32)), (.ref a1)]))
  obtain ⟨v121, T121, L121, X121, hQ121, st121⟩ := own_callV X120 hx hZ (argsL := [(.int (0 : Int32))]) (rest := []) (rm_chL_1_0 l Z a0 hw a1 t k c0 zC vS h0 n0 O0 hS E_a1 F1 F2 V1 hc0 hl0) hown (ow hw 59 rfl) (ow hw 60 rfl) (notFace_of_selects (args := #[]) (mvT hZ (ow hw 62 rfl))) (ow hw 62 rfl) (ow hw 61 rfl) (ow hw 6 rfl) (ow hw 63 rfl) (by decide) eq120 E_a1 (g := (mkF m 35 #[.val (.ref a1), .val (.int (0 : Int32)), .unset] [(.int (0 : Int32)), (.ref a1)])) rfl (by rw [hml]; rfl) (lenOf own_pd__28I_29C rfl) rfl (W := 0) (by show 2 * 0 + _ ≤ _; exact Nat.le_of_eq rfl) (hb hby d5_35) (by decide) (by decide) (by decide) (by decide)
  obtain ⟨rfl, Nq121, eq121⟩ := hQ121
  have N121 := Fr.app N120 Nq121
  refine oS st121 ?_
  show own_go _ _ _ _ _ _ _ (T121.setTop (mkF m 38 #[.val (.ref a1), .val (.int (0 : Int32)), .unset] [(.int c0)]))
  refine oS (fun _ k => XS.istoreN X121.here hx rfl (hb hby d5_38) rfl (l' := #[.val (.ref a1), .val (.int (0 : Int32)), .val (.int c0)]) rfl k) ?_
  refine oS (fun _ k => XS.iloadN X121.here hx rfl (hb hby d5_39) rfl k) ?_
  refine oS (fun _ k => XS.bipush X121.here hx rfl (hb hby d5_40) k) ?_
  show own_go _ _ _ _ _ _ _ (T121.setTop (mkF m 42 #[.val (.ref a1), .val (.int (0 : Int32)), .val (.int c0)] [(.int (32 : Int32)), (.int c0)]))
  by_cases hc122 : c0 < (32 : Int32)
  · skip
    refine oS (fun _ k => XS.icmpYes X121.here hx rfl (pc0 := 42) (pc' := 51) rfl (hb hby d5_42) rfl (XT.ii_lt_t hc122) (by decide) (by decide) k) ?_
    refine oS (fun _ k => XS.aconstNull X121.here hx rfl (hb hby d5_51) k) ?_
    show own_go _ _ _ _ _ _ _ (T121.setTop (mkF m 52 #[.val (.ref a1), .val (.int (0 : Int32)), .val (.int c0)] [.null]))
    exact own_retA X121 hx hlk hret rfl rfl (hb hby d5_52) (by decide) (by decide) ⟨_, rfl, N121, eq121, fun q => absurd hc122 q.1, fun _ => rfl⟩
  · skip
    refine oS (fun _ k => XS.icmpNo X121.here hx rfl (hb hby d5_42) rfl (XT.ii_lt_f hc122) k) ?_
    refine oS (fun _ k => XS.iloadN X121.here hx rfl (hb hby d5_45) rfl k) ?_
    refine oS (fun _ k => XS.bipush X121.here hx rfl (hb hby d5_46) k) ?_
    show own_go _ _ _ _ _ _ _ (T121.setTop (mkF m 48 #[.val (.ref a1), .val (.int (0 : Int32)), .val (.int c0)] [(.int (126 : Int32)), (.int c0)]))
    by_cases hc123 : (126 : Int32) < c0
    · skip
      refine oS (fun _ k => XS.icmpNo X121.here hx rfl (hb hby d5_48) rfl (XT.ii_le_f hc123) k) ?_
      refine oS (fun _ k => XS.aconstNull X121.here hx rfl (hb hby d5_51) k) ?_
      show own_go _ _ _ _ _ _ _ (T121.setTop (mkF m 52 #[.val (.ref a1), .val (.int (0 : Int32)), .val (.int c0)] [.null]))
      exact own_retA X121 hx hlk hret rfl rfl (hb hby d5_52) (by decide) (by decide) ⟨_, rfl, N121, eq121, fun q => absurd hc123 q.2, fun _ => rfl⟩
    · skip
      refine oS (fun _ k => XS.icmpYes X121.here hx rfl (pc0 := 48) (pc' := 53) rfl (hb hby d5_48) rfl (XT.ii_le_t hc123) (by decide) (by decide) k) ?_
      refine oS (fun _ k => XS.iinc X121.here hx rfl (hb hby d5_53) rfl (l' := #[.val (.ref a1), .val (.int (1 : Int32)), .val (.int c0)]) rfl k) ?_
      refine oS (fun _ k => XS.goto X121.here hx rfl (pc0 := 56) (pc' := 25) rfl (hb hby d5_56) (by decide) (by decide) k) ?_
      refine oS (fun _ k => XS.iloadN X121.here hx rfl (hb hby d5_25) rfl k) ?_
      refine oS (fun _ k => XS.aloadN X121.here hx rfl (hb hby d5_26) rfl rfl k) ?_
      show own_go _ _ _ _ _ _ _ (T121.setTop (mkF m 27 #[.val (.ref a1), .val (.int (1 : Int32)), .val (.int c0)] [(.ref a1), (.int (1 : Int32))]))
      obtain ⟨v124, T124, L124, X124, hQ124, st124⟩ := own_callV X121 hx hZ (argsL := []) (rest := [(.int (1 : Int32))]) (rm_len_L_1 l Z a0 hw a1 t k _ zC vS h0 n0 O0 hS E_a1 F1 F2 V1) hown (ow hw 49 rfl) (ow hw 50 rfl) (notFace_of_selects (args := #[]) (mvT hZ (ow hw 52 rfl))) (ow hw 52 rfl) (ow hw 51 rfl) (ow hw 6 rfl) (ow hw 53 rfl) (by decide) eq121 E_a1 (g := (mkF m 27 #[.val (.ref a1), .val (.int (1 : Int32)), .val (.int c0)] [(.ref a1), (.int (1 : Int32))])) rfl (by rw [hml]; rfl) (lenOf own_pd__28_29I rfl) rfl (W := 1) (by show 2 * 0 + _ ≤ _; exact Nat.le_of_eq rfl) (hb hby d5_27) (by decide) (by decide) (by decide) (by decide)
      obtain ⟨rfl, Nq124, eq124⟩ := hQ124
      have N124 := Fr.app N121 Nq124
      refine oS st124 ?_
      show own_go _ _ _ _ _ _ _ (T124.setTop (mkF m 30 #[.val (.ref a1), .val (.int (1 : Int32)), .val (.int c0)] [(.int (1 : Int32)), (.int (1 : Int32))]))
      refine oS (fun _ k => XS.icmpYes X124.here hx rfl (pc0 := 30) (pc' := 59) rfl (hb hby d5_30) rfl (by decide) (by decide) (by decide) k) ?_
      refine oS (fun _ k => XS.aloadN X124.here hx rfl (hb hby d5_59) rfl rfl k) ?_
      show own_go _ _ _ _ _ _ _ (T124.setTop (mkF m 60 #[.val (.ref a1), .val (.int (1 : Int32)), .val (.int c0)] [(.ref a1)]))
      exact own_retA X124 hx hlk hret rfl rfl (hb hby d5_60) (by decide) (by decide) ⟨_, rfl, N124, eq124, fun _ => rfl, fun q => absurd (⟨hc122, hc123⟩ : own_ok c0) q⟩
theorem own_ef_rm_kpL_2 (m : MethodId) (a1 : Addr) : entryFrame m #[(.ref a1)] 3 = mkF m 0 #[.val (.ref a1), .unset, .unset] [] := by first | (simp [entryFrame, mkF, argsToLocals, Value.category]; done) | rfl
set_option maxRecDepth 65536 in
set_option maxHeartbeats 40000000 in
theorem rm_kpL_2 (l : Launch) (Z : State) (a0 : Array Value) (hw : ∀ d ∈ tables_1, d.before a0 Z = true) (a1 t : Addr) (k : ClassId) (c0 c1 : Int32) (zC : Int32) (vS : Value) (h0 : Heap) (n0 : Nat) (O0 : Old Z n0 h0) (hS : own_S Z zC vS) (E_a1 : Exa Z h0 a1 "java/lang/String") (F1 : Fld Z h0 a1 "java/lang/String" "value" "[B" (.ref t)) (F2 : Fld Z h0 a1 "java/lang/String" "coder" "B" (.int (0 : Int32))) (V1 : Arv Z h0 t k .byte (2 : Int32) [(.int (c0.toInt8.toInt32)), (.int (c1.toInt8.toInt32))] (.int (0 : Int32))) (hc0 : own_ch c0) (hc1 : own_ch c1) (hl0 : ¬ (255 : Int32) < c0) (hl1 : ¬ (255 : Int32) < c1) :
    own_Met l Z (⟨"com/example/lynceus/lynceus/probe/HeaderValue", "keepable", "(Ljava/lang/String;)Ljava/lang/String;"⟩ : MethodName) prog_50_method_2_code 3 (some (.object "java/lang/String")) [] ({ frames := 5, cells := 0, slots := 0, locals := 84 } : Room) #[(.ref a1)] h0 (fun v h L => ∃ w, v = some w ∧ Fr n0 L ∧ h = h0 ∧ ((own_ok c0 ∧ own_ok c1) → w = .ref a1) ∧ (¬ (own_ok c0 ∧ own_ok c1) → w = .null)) := by
  refine own_body own_pn_5 ?_
  intro p e s m below meth c s₁ hx hby hml hown hnm hret hlk X0 hZ e0
  replace hown : s.vm.findClass "com/example/lynceus/lynceus/probe/HeaderValue" = some m.cls := hown
  have N0 := Fr.nil n0
  have K0 := Keep.refl h0 []
  refine oS (fun _ k => castTop (own_ef_rm_kpL_2 m a1) k) ?_
  show own_go _ _ _ _ _ _ _ (s₁.setTop (mkF m 0 #[.val (.ref a1), .unset, .unset] []))
  refine oS (fun _ k => XS.aloadN X0.here hx rfl (hb hby d5_0) rfl rfl k) ?_
  show own_go _ _ _ _ _ _ _ (s₁.setTop (mkF m 1 #[.val (.ref a1), .unset, .unset] [(.ref a1)]))
  refine oS (fun _ k => XS.ifnullNo X0.here hx rfl (hb hby d5_1) rfl k) ?_
  refine oS (fun _ k => XS.aloadN X0.here hx rfl (hb hby d5_4) rfl rfl k) ?_
  show own_go _ _ _ _ _ _ _ (s₁.setTop (mkF m 5 #[.val (.ref a1), .unset, .unset] [(.ref a1)]))
  obtain ⟨v125, T125, L125, X125, hQ125, st125⟩ := own_callV X0 hx hZ (argsL := []) (rest := []) (rm_emp_2 l Z a0 hw a1 t k _ h0 n0 O0 F1 V1) hown (ow hw 30 rfl) (ow hw 31 rfl) (notFace_of_selects (args := #[]) (mvT hZ (ow hw 33 rfl))) (ow hw 33 rfl) (ow hw 32 rfl) (ow hw 6 rfl) (ow hw 34 rfl) (by decide) e0 E_a1 (g := (mkF m 5 #[.val (.ref a1), .unset, .unset] [(.ref a1)])) rfl (by rw [hml]; rfl) (lenOf own_pd__28_29Z rfl) rfl (W := 0) (by show 2 * 0 + _ ≤ _; exact Nat.le_of_eq rfl) (hb hby d5_5) (by decide) (by decide) (by decide) (by decide)
  obtain ⟨rfl, Nq125, eq125⟩ := hQ125
  have N125 := Fr.app N0 Nq125
  refine oS st125 ?_
  show own_go _ _ _ _ _ _ _ (T125.setTop (mkF m 8 #[.val (.ref a1), .unset, .unset] [(.int (0 : Int32))]))
  refine oS (fun _ k => XS.ifNo X125.here hx rfl (hb hby d5_8) rfl (by decide) k) ?_
  refine oS (fun _ k => XS.aloadN X125.here hx rfl (hb hby d5_11) rfl rfl k) ?_
  show own_go _ _ _ _ _ _ _ (T125.setTop (mkF m 12 #[.val (.ref a1), .unset, .unset] [(.ref a1)]))
  obtain ⟨v126, T126, L126, X126, hQ126, st126⟩ := own_callV X125 hx hZ (argsL := []) (rest := []) (rm_len_L_2 l Z a0 hw a1 t k _ zC vS h0 n0 O0 hS E_a1 F1 F2 V1) hown (ow hw 49 rfl) (ow hw 50 rfl) (notFace_of_selects (args := #[]) (mvT hZ (ow hw 52 rfl))) (ow hw 52 rfl) (ow hw 51 rfl) (ow hw 6 rfl) (ow hw 53 rfl) (by decide) eq125 E_a1 (g := (mkF m 12 #[.val (.ref a1), .unset, .unset] [(.ref a1)])) rfl (by rw [hml]; rfl) (lenOf own_pd__28_29I rfl) rfl (W := 0) (by show 2 * 0 + _ ≤ _; exact Nat.le_of_eq rfl) (hb hby d5_12) (by decide) (by decide) (by decide) (by decide)
  obtain ⟨rfl, Nq126, eq126⟩ := hQ126
  have N126 := Fr.app N125 Nq126
  refine oS st126 ?_
  show own_go _ _ _ _ _ _ _ (T126.setTop (mkF m 15 #[.val (.ref a1), .unset, .unset] [(.int (2 : Int32))]))
  refine oS (fun _ k => XS.sipush X126.here hx rfl (hb hby d5_15) k) ?_
  show own_go _ _ _ _ _ _ _ (T126.setTop (mkF m 18 #[.val (.ref a1), .unset, .unset] [(.int (1024 : Int32)), (.int (2 : Int32))]))
  refine oS (fun _ k => XS.icmpYes X126.here hx rfl (pc0 := 18) (pc' := 23) rfl (hb hby d5_18) rfl (by decide) (by decide) (by decide) k) ?_
  refine oS (fun _ k => XS.iconst X126.here hx rfl (hb hby d5_23) k) ?_
  refine oS (fun _ k => XS.istoreN X126.here hx rfl (hb hby d5_24) rfl (l' := #[.val (.ref a1), .val (.int (0 : Int32)), .unset]) rfl k) ?_
  refine oS (fun _ k => XS.iloadN X126.here hx rfl (hb hby d5_25) rfl k) ?_
  refine oS (fun _ k => XS.aloadN X126.here hx rfl (hb hby d5_26) rfl rfl k) ?_
  show own_go _ _ _ _ _ _ _ (T126.setTop (mkF m 27 #[.val (.ref a1), .val (.int (0 : Int32)), .unset] [(.ref a1), (.int (0 : Int32))]))
  obtain ⟨v127, T127, L127, X127, hQ127, st127⟩ := own_callV X126 hx hZ (argsL := []) (rest := [(.int (0 : Int32))]) (rm_len_L_2 l Z a0 hw a1 t k _ zC vS h0 n0 O0 hS E_a1 F1 F2 V1) hown (ow hw 49 rfl) (ow hw 50 rfl) (notFace_of_selects (args := #[]) (mvT hZ (ow hw 52 rfl))) (ow hw 52 rfl) (ow hw 51 rfl) (ow hw 6 rfl) (ow hw 53 rfl) (by decide) eq126 E_a1 (g := (mkF m 27 #[.val (.ref a1), .val (.int (0 : Int32)), .unset] [(.ref a1), (.int (0 : Int32))])) rfl (by rw [hml]; rfl) (lenOf own_pd__28_29I rfl) rfl (W := 1) (by show 2 * 0 + _ ≤ _; exact Nat.le_of_eq rfl) (hb hby d5_27) (by decide) (by decide) (by decide) (by decide)
  obtain ⟨rfl, Nq127, eq127⟩ := hQ127
  have N127 := Fr.app N126 Nq127
  refine oS st127 ?_
  show own_go _ _ _ _ _ _ _ (T127.setTop (mkF m 30 #[.val (.ref a1), .val (.int (0 : Int32)), .unset] [(.int (2 : Int32)), (.int (0 : Int32))]))
  refine oS (fun _ k => XS.icmpNo X127.here hx rfl (hb hby d5_30) rfl (by decide) k) ?_
  refine oS (fun _ k => XS.aloadN X127.here hx rfl (hb hby d5_33) rfl rfl k) ?_
  refine oS (fun _ k => XS.iloadN X127.here hx rfl (hb hby d5_34) rfl k) ?_
  show own_go _ _ _ _ _ _ _ (T127.setTop (mkF m 35 #[.val (.ref a1), .val (.int (0 : Int32)), .unset] [(.int (0 : Int32)), (.ref a1)]))
  obtain ⟨v128, T128, L128, X128, hQ128, st128⟩ := own_callV X127 hx hZ (argsL := [(.int (0 : Int32))]) (rest := []) (rm_chL_2_0 l Z a0 hw a1 t k c0 c1 zC vS h0 n0 O0 hS E_a1 F1 F2 V1 hc0 hl0) hown (ow hw 59 rfl) (ow hw 60 rfl) (notFace_of_selects (args := #[]) (mvT hZ (ow hw 62 rfl))) (ow hw 62 rfl) (ow hw 61 rfl) (ow hw 6 rfl) (ow hw 63 rfl) (by decide) eq127 E_a1 (g := (mkF m 35 #[.val (.ref a1), .val (.int (0 : Int32)), .unset] [(.int (0 : Int32)), (.ref a1)])) rfl (by rw [hml]; rfl) (lenOf own_pd__28I_29C rfl) rfl (W := 0) (by show 2 * 0 + _ ≤ _; exact Nat.le_of_eq rfl) (hb hby d5_35) (by decide) (by decide) (by decide) (by decide)
  obtain ⟨rfl, Nq128, eq128⟩ := hQ128
  have N128 := Fr.app N127 Nq128
  refine oS st128 ?_
  show own_go _ _ _ _ _ _ _ (T128.setTop (mkF m 38 #[.val (.ref a1), .val (.int (0 : Int32)), .unset] [(.int c0)]))
  refine oS (fun _ k => XS.istoreN X128.here hx rfl (hb hby d5_38) rfl (l' := #[.val (.ref a1), .val (.int (0 : Int32)), .val (.int c0)]) rfl k) ?_
  refine oS (fun _ k => XS.iloadN X128.here hx rfl (hb hby d5_39) rfl k) ?_
  refine oS (fun _ k => XS.bipush X128.here hx rfl (hb hby d5_40) k) ?_
  show own_go _ _ _ _ _ _ _ (T128.setTop (mkF m 42 #[.val (.ref a1), .val (.int (0 : Int32)), .val (.int c0)] [(.int (32 : Int32)), (.int c0)]))
  by_cases hc129 : c0 < (32 : Int32)
  · skip
    refine oS (fun _ k => XS.icmpYes X128.here hx rfl (pc0 := 42) (pc' := 51) rfl (hb hby d5_42) rfl (XT.ii_lt_t hc129) (by decide) (by decide) k) ?_
    refine oS (fun _ k => XS.aconstNull X128.here hx rfl (hb hby d5_51) k) ?_
    show own_go _ _ _ _ _ _ _ (T128.setTop (mkF m 52 #[.val (.ref a1), .val (.int (0 : Int32)), .val (.int c0)] [.null]))
    exact own_retA X128 hx hlk hret rfl rfl (hb hby d5_52) (by decide) (by decide) ⟨_, rfl, N128, eq128, fun q => absurd hc129 q.1.1, fun _ => rfl⟩
  · skip
    refine oS (fun _ k => XS.icmpNo X128.here hx rfl (hb hby d5_42) rfl (XT.ii_lt_f hc129) k) ?_
    refine oS (fun _ k => XS.iloadN X128.here hx rfl (hb hby d5_45) rfl k) ?_
    refine oS (fun _ k => XS.bipush X128.here hx rfl (hb hby d5_46) k) ?_
    show own_go _ _ _ _ _ _ _ (T128.setTop (mkF m 48 #[.val (.ref a1), .val (.int (0 : Int32)), .val (.int c0)] [(.int (126 : Int32)), (.int c0)]))
    by_cases hc130 : (126 : Int32) < c0
    · skip
      refine oS (fun _ k => XS.icmpNo X128.here hx rfl (hb hby d5_48) rfl (XT.ii_le_f hc130) k) ?_
      refine oS (fun _ k => XS.aconstNull X128.here hx rfl (hb hby d5_51) k) ?_
      show own_go _ _ _ _ _ _ _ (T128.setTop (mkF m 52 #[.val (.ref a1), .val (.int (0 : Int32)), .val (.int c0)] [.null]))
      exact own_retA X128 hx hlk hret rfl rfl (hb hby d5_52) (by decide) (by decide) ⟨_, rfl, N128, eq128, fun q => absurd hc130 q.1.2, fun _ => rfl⟩
    · skip
      refine oS (fun _ k => XS.icmpYes X128.here hx rfl (pc0 := 48) (pc' := 53) rfl (hb hby d5_48) rfl (XT.ii_le_t hc130) (by decide) (by decide) k) ?_
      refine oS (fun _ k => XS.iinc X128.here hx rfl (hb hby d5_53) rfl (l' := #[.val (.ref a1), .val (.int (1 : Int32)), .val (.int c0)]) rfl k) ?_
      refine oS (fun _ k => XS.goto X128.here hx rfl (pc0 := 56) (pc' := 25) rfl (hb hby d5_56) (by decide) (by decide) k) ?_
      refine oS (fun _ k => XS.iloadN X128.here hx rfl (hb hby d5_25) rfl k) ?_
      refine oS (fun _ k => XS.aloadN X128.here hx rfl (hb hby d5_26) rfl rfl k) ?_
      show own_go _ _ _ _ _ _ _ (T128.setTop (mkF m 27 #[.val (.ref a1), .val (.int (1 : Int32)), .val (.int c0)] [(.ref a1), (.int (1 : Int32))]))
      obtain ⟨v131, T131, L131, X131, hQ131, st131⟩ := own_callV X128 hx hZ (argsL := []) (rest := [(.int (1 : Int32))]) (rm_len_L_2 l Z a0 hw a1 t k _ zC vS h0 n0 O0 hS E_a1 F1 F2 V1) hown (ow hw 49 rfl) (ow hw 50 rfl) (notFace_of_selects (args := #[]) (mvT hZ (ow hw 52 rfl))) (ow hw 52 rfl) (ow hw 51 rfl) (ow hw 6 rfl) (ow hw 53 rfl) (by decide) eq128 E_a1 (g := (mkF m 27 #[.val (.ref a1), .val (.int (1 : Int32)), .val (.int c0)] [(.ref a1), (.int (1 : Int32))])) rfl (by rw [hml]; rfl) (lenOf own_pd__28_29I rfl) rfl (W := 1) (by show 2 * 0 + _ ≤ _; exact Nat.le_of_eq rfl) (hb hby d5_27) (by decide) (by decide) (by decide) (by decide)
      obtain ⟨rfl, Nq131, eq131⟩ := hQ131
      have N131 := Fr.app N128 Nq131
      refine oS st131 ?_
      show own_go _ _ _ _ _ _ _ (T131.setTop (mkF m 30 #[.val (.ref a1), .val (.int (1 : Int32)), .val (.int c0)] [(.int (2 : Int32)), (.int (1 : Int32))]))
      refine oS (fun _ k => XS.icmpNo X131.here hx rfl (hb hby d5_30) rfl (by decide) k) ?_
      refine oS (fun _ k => XS.aloadN X131.here hx rfl (hb hby d5_33) rfl rfl k) ?_
      refine oS (fun _ k => XS.iloadN X131.here hx rfl (hb hby d5_34) rfl k) ?_
      show own_go _ _ _ _ _ _ _ (T131.setTop (mkF m 35 #[.val (.ref a1), .val (.int (1 : Int32)), .val (.int c0)] [(.int (1 : Int32)), (.ref a1)]))
      obtain ⟨v132, T132, L132, X132, hQ132, st132⟩ := own_callV X131 hx hZ (argsL := [(.int (1 : Int32))]) (rest := []) (rm_chL_2_1 l Z a0 hw a1 t k c0 c1 zC vS h0 n0 O0 hS E_a1 F1 F2 V1 hc1 hl1) hown (ow hw 59 rfl) (ow hw 60 rfl) (notFace_of_selects (args := #[]) (mvT hZ (ow hw 62 rfl))) (ow hw 62 rfl) (ow hw 61 rfl) (ow hw 6 rfl) (ow hw 63 rfl) (by decide) eq131 E_a1 (g := (mkF m 35 #[.val (.ref a1), .val (.int (1 : Int32)), .val (.int c0)] [(.int (1 : Int32)), (.ref a1)])) rfl (by rw [hml]; rfl) (lenOf own_pd__28I_29C rfl) rfl (W := 0) (by show 2 * 0 + _ ≤ _; exact Nat.le_of_eq rfl) (hb hby d5_35) (by decide) (by decide) (by decide) (by decide)
      obtain ⟨rfl, Nq132, eq132⟩ := hQ132
      have N132 := Fr.app N131 Nq132
      refine oS st132 ?_
      show own_go _ _ _ _ _ _ _ (T132.setTop (mkF m 38 #[.val (.ref a1), .val (.int (1 : Int32)), .val (.int c0)] [(.int c1)]))
      refine oS (fun _ k => XS.istoreN X132.here hx rfl (hb hby d5_38) rfl (l' := #[.val (.ref a1), .val (.int (1 : Int32)), .val (.int c1)]) rfl k) ?_
      refine oS (fun _ k => XS.iloadN X132.here hx rfl (hb hby d5_39) rfl k) ?_
      refine oS (fun _ k => XS.bipush X132.here hx rfl (hb hby d5_40) k) ?_
      show own_go _ _ _ _ _ _ _ (T132.setTop (mkF m 42 #[.val (.ref a1), .val (.int (1 : Int32)), .val (.int c1)] [(.int (32 : Int32)), (.int c1)]))
      by_cases hc133 : c1 < (32 : Int32)
      · skip
        refine oS (fun _ k => XS.icmpYes X132.here hx rfl (pc0 := 42) (pc' := 51) rfl (hb hby d5_42) rfl (XT.ii_lt_t hc133) (by decide) (by decide) k) ?_
        refine oS (fun _ k => XS.aconstNull X132.here hx rfl (hb hby d5_51) k) ?_
        show own_go _ _ _ _ _ _ _ (T132.setTop (mkF m 52 #[.val (.ref a1), .val (.int (1 : Int32)), .val (.int c1)] [.null]))
        exact own_retA X132 hx hlk hret rfl rfl (hb hby d5_52) (by decide) (by decide) ⟨_, rfl, N132, eq132, fun q => absurd hc133 q.2.1, fun _ => rfl⟩
      · skip
        refine oS (fun _ k => XS.icmpNo X132.here hx rfl (hb hby d5_42) rfl (XT.ii_lt_f hc133) k) ?_
        refine oS (fun _ k => XS.iloadN X132.here hx rfl (hb hby d5_45) rfl k) ?_
        refine oS (fun _ k => XS.bipush X132.here hx rfl (hb hby d5_46) k) ?_
        show own_go _ _ _ _ _ _ _ (T132.setTop (mkF m 48 #[.val (.ref a1), .val (.int (1 : Int32)), .val (.int c1)] [(.int (126 : Int32)), (.int c1)]))
        by_cases hc134 : (126 : Int32) < c1
        · skip
          refine oS (fun _ k => XS.icmpNo X132.here hx rfl (hb hby d5_48) rfl (XT.ii_le_f hc134) k) ?_
          refine oS (fun _ k => XS.aconstNull X132.here hx rfl (hb hby d5_51) k) ?_
          show own_go _ _ _ _ _ _ _ (T132.setTop (mkF m 52 #[.val (.ref a1), .val (.int (1 : Int32)), .val (.int c1)] [.null]))
          exact own_retA X132 hx hlk hret rfl rfl (hb hby d5_52) (by decide) (by decide) ⟨_, rfl, N132, eq132, fun q => absurd hc134 q.2.2, fun _ => rfl⟩
        · skip
          refine oS (fun _ k => XS.icmpYes X132.here hx rfl (pc0 := 48) (pc' := 53) rfl (hb hby d5_48) rfl (XT.ii_le_t hc134) (by decide) (by decide) k) ?_
          refine oS (fun _ k => XS.iinc X132.here hx rfl (hb hby d5_53) rfl (l' := #[.val (.ref a1), .val (.int (2 : Int32)), .val (.int c1)]) rfl k) ?_
          refine oS (fun _ k => XS.goto X132.here hx rfl (pc0 := 56) (pc' := 25) rfl (hb hby d5_56) (by decide) (by decide) k) ?_
          refine oS (fun _ k => XS.iloadN X132.here hx rfl (hb hby d5_25) rfl k) ?_
          refine oS (fun _ k => XS.aloadN X132.here hx rfl (hb hby d5_26) rfl rfl k) ?_
          show own_go _ _ _ _ _ _ _ (T132.setTop (mkF m 27 #[.val (.ref a1), .val (.int (2 : Int32)), .val (.int c1)] [(.ref a1), (.int (2 : Int32))]))
          obtain ⟨v135, T135, L135, X135, hQ135, st135⟩ := own_callV X132 hx hZ (argsL := []) (rest := [(.int (2 : Int32))]) (rm_len_L_2 l Z a0 hw a1 t k _ zC vS h0 n0 O0 hS E_a1 F1 F2 V1) hown (ow hw 49 rfl) (ow hw 50 rfl) (notFace_of_selects (args := #[]) (mvT hZ (ow hw 52 rfl))) (ow hw 52 rfl) (ow hw 51 rfl) (ow hw 6 rfl) (ow hw 53 rfl) (by decide) eq132 E_a1 (g := (mkF m 27 #[.val (.ref a1), .val (.int (2 : Int32)), .val (.int c1)] [(.ref a1), (.int (2 : Int32))])) rfl (by rw [hml]; rfl) (lenOf own_pd__28_29I rfl) rfl (W := 1) (by show 2 * 0 + _ ≤ _; exact Nat.le_of_eq rfl) (hb hby d5_27) (by decide) (by decide) (by decide) (by decide)
          obtain ⟨rfl, Nq135, eq135⟩ := hQ135
          have N135 := Fr.app N132 Nq135
          refine oS st135 ?_
          show own_go _ _ _ _ _ _ _ (T135.setTop (mkF m 30 #[.val (.ref a1), .val (.int (2 : Int32)), .val (.int c1)] [(.int (2 : Int32)), (.int (2 : Int32))]))
          refine oS (fun _ k => XS.icmpYes X135.here hx rfl (pc0 := 30) (pc' := 59) rfl (hb hby d5_30) rfl (by decide) (by decide) (by decide) k) ?_
          refine oS (fun _ k => XS.aloadN X135.here hx rfl (hb hby d5_59) rfl rfl k) ?_
          show own_go _ _ _ _ _ _ _ (T135.setTop (mkF m 60 #[.val (.ref a1), .val (.int (2 : Int32)), .val (.int c1)] [(.ref a1)]))
          exact own_retA X135 hx hlk hret rfl rfl (hb hby d5_60) (by decide) (by decide) ⟨_, rfl, N135, eq135, fun _ => rfl, fun q => absurd (⟨⟨hc129, hc130⟩, ⟨hc133, hc134⟩⟩ : own_ok c0 ∧ own_ok c1) q⟩
theorem own_ef_rm_kpL_3 (m : MethodId) (a1 : Addr) : entryFrame m #[(.ref a1)] 3 = mkF m 0 #[.val (.ref a1), .unset, .unset] [] := by first | (simp [entryFrame, mkF, argsToLocals, Value.category]; done) | rfl
set_option maxRecDepth 65536 in
set_option maxHeartbeats 40000000 in
theorem rm_kpL_3 (l : Launch) (Z : State) (a0 : Array Value) (hw : ∀ d ∈ tables_1, d.before a0 Z = true) (a1 t : Addr) (k : ClassId) (c0 c1 c2 : Int32) (zC : Int32) (vS : Value) (h0 : Heap) (n0 : Nat) (O0 : Old Z n0 h0) (hS : own_S Z zC vS) (E_a1 : Exa Z h0 a1 "java/lang/String") (F1 : Fld Z h0 a1 "java/lang/String" "value" "[B" (.ref t)) (F2 : Fld Z h0 a1 "java/lang/String" "coder" "B" (.int (0 : Int32))) (V1 : Arv Z h0 t k .byte (3 : Int32) [(.int (c0.toInt8.toInt32)), (.int (c1.toInt8.toInt32)), (.int (c2.toInt8.toInt32))] (.int (0 : Int32))) (hc0 : own_ch c0) (hc1 : own_ch c1) (hc2 : own_ch c2) (hl0 : ¬ (255 : Int32) < c0) (hl1 : ¬ (255 : Int32) < c1) (hl2 : ¬ (255 : Int32) < c2) :
    own_Met l Z (⟨"com/example/lynceus/lynceus/probe/HeaderValue", "keepable", "(Ljava/lang/String;)Ljava/lang/String;"⟩ : MethodName) prog_50_method_2_code 3 (some (.object "java/lang/String")) [] ({ frames := 5, cells := 0, slots := 0, locals := 84 } : Room) #[(.ref a1)] h0 (fun v h L => ∃ w, v = some w ∧ Fr n0 L ∧ h = h0 ∧ ((own_ok c0 ∧ own_ok c1 ∧ own_ok c2) → w = .ref a1) ∧ (¬ (own_ok c0 ∧ own_ok c1 ∧ own_ok c2) → w = .null)) := by
  refine own_body own_pn_5 ?_
  intro p e s m below meth c s₁ hx hby hml hown hnm hret hlk X0 hZ e0
  replace hown : s.vm.findClass "com/example/lynceus/lynceus/probe/HeaderValue" = some m.cls := hown
  have N0 := Fr.nil n0
  have K0 := Keep.refl h0 []
  refine oS (fun _ k => castTop (own_ef_rm_kpL_3 m a1) k) ?_
  show own_go _ _ _ _ _ _ _ (s₁.setTop (mkF m 0 #[.val (.ref a1), .unset, .unset] []))
  refine oS (fun _ k => XS.aloadN X0.here hx rfl (hb hby d5_0) rfl rfl k) ?_
  show own_go _ _ _ _ _ _ _ (s₁.setTop (mkF m 1 #[.val (.ref a1), .unset, .unset] [(.ref a1)]))
  refine oS (fun _ k => XS.ifnullNo X0.here hx rfl (hb hby d5_1) rfl k) ?_
  refine oS (fun _ k => XS.aloadN X0.here hx rfl (hb hby d5_4) rfl rfl k) ?_
  show own_go _ _ _ _ _ _ _ (s₁.setTop (mkF m 5 #[.val (.ref a1), .unset, .unset] [(.ref a1)]))
  obtain ⟨v136, T136, L136, X136, hQ136, st136⟩ := own_callV X0 hx hZ (argsL := []) (rest := []) (rm_emp_3 l Z a0 hw a1 t k _ h0 n0 O0 F1 V1) hown (ow hw 30 rfl) (ow hw 31 rfl) (notFace_of_selects (args := #[]) (mvT hZ (ow hw 33 rfl))) (ow hw 33 rfl) (ow hw 32 rfl) (ow hw 6 rfl) (ow hw 34 rfl) (by decide) e0 E_a1 (g := (mkF m 5 #[.val (.ref a1), .unset, .unset] [(.ref a1)])) rfl (by rw [hml]; rfl) (lenOf own_pd__28_29Z rfl) rfl (W := 0) (by show 2 * 0 + _ ≤ _; exact Nat.le_of_eq rfl) (hb hby d5_5) (by decide) (by decide) (by decide) (by decide)
  obtain ⟨rfl, Nq136, eq136⟩ := hQ136
  have N136 := Fr.app N0 Nq136
  refine oS st136 ?_
  show own_go _ _ _ _ _ _ _ (T136.setTop (mkF m 8 #[.val (.ref a1), .unset, .unset] [(.int (0 : Int32))]))
  refine oS (fun _ k => XS.ifNo X136.here hx rfl (hb hby d5_8) rfl (by decide) k) ?_
  refine oS (fun _ k => XS.aloadN X136.here hx rfl (hb hby d5_11) rfl rfl k) ?_
  show own_go _ _ _ _ _ _ _ (T136.setTop (mkF m 12 #[.val (.ref a1), .unset, .unset] [(.ref a1)]))
  obtain ⟨v137, T137, L137, X137, hQ137, st137⟩ := own_callV X136 hx hZ (argsL := []) (rest := []) (rm_len_L_3 l Z a0 hw a1 t k _ zC vS h0 n0 O0 hS E_a1 F1 F2 V1) hown (ow hw 49 rfl) (ow hw 50 rfl) (notFace_of_selects (args := #[]) (mvT hZ (ow hw 52 rfl))) (ow hw 52 rfl) (ow hw 51 rfl) (ow hw 6 rfl) (ow hw 53 rfl) (by decide) eq136 E_a1 (g := (mkF m 12 #[.val (.ref a1), .unset, .unset] [(.ref a1)])) rfl (by rw [hml]; rfl) (lenOf own_pd__28_29I rfl) rfl (W := 0) (by show 2 * 0 + _ ≤ _; exact Nat.le_of_eq rfl) (hb hby d5_12) (by decide) (by decide) (by decide) (by decide)
  obtain ⟨rfl, Nq137, eq137⟩ := hQ137
  have N137 := Fr.app N136 Nq137
  refine oS st137 ?_
  show own_go _ _ _ _ _ _ _ (T137.setTop (mkF m 15 #[.val (.ref a1), .unset, .unset] [(.int (3 : Int32))]))
  refine oS (fun _ k => XS.sipush X137.here hx rfl (hb hby d5_15) k) ?_
  show own_go _ _ _ _ _ _ _ (T137.setTop (mkF m 18 #[.val (.ref a1), .unset, .unset] [(.int (1024 : Int32)), (.int (3 : Int32))]))
  refine oS (fun _ k => XS.icmpYes X137.here hx rfl (pc0 := 18) (pc' := 23) rfl (hb hby d5_18) rfl (by decide) (by decide) (by decide) k) ?_
  refine oS (fun _ k => XS.iconst X137.here hx rfl (hb hby d5_23) k) ?_
  refine oS (fun _ k => XS.istoreN X137.here hx rfl (hb hby d5_24) rfl (l' := #[.val (.ref a1), .val (.int (0 : Int32)), .unset]) rfl k) ?_
  refine oS (fun _ k => XS.iloadN X137.here hx rfl (hb hby d5_25) rfl k) ?_
  refine oS (fun _ k => XS.aloadN X137.here hx rfl (hb hby d5_26) rfl rfl k) ?_
  show own_go _ _ _ _ _ _ _ (T137.setTop (mkF m 27 #[.val (.ref a1), .val (.int (0 : Int32)), .unset] [(.ref a1), (.int (0 : Int32))]))
  obtain ⟨v138, T138, L138, X138, hQ138, st138⟩ := own_callV X137 hx hZ (argsL := []) (rest := [(.int (0 : Int32))]) (rm_len_L_3 l Z a0 hw a1 t k _ zC vS h0 n0 O0 hS E_a1 F1 F2 V1) hown (ow hw 49 rfl) (ow hw 50 rfl) (notFace_of_selects (args := #[]) (mvT hZ (ow hw 52 rfl))) (ow hw 52 rfl) (ow hw 51 rfl) (ow hw 6 rfl) (ow hw 53 rfl) (by decide) eq137 E_a1 (g := (mkF m 27 #[.val (.ref a1), .val (.int (0 : Int32)), .unset] [(.ref a1), (.int (0 : Int32))])) rfl (by rw [hml]; rfl) (lenOf own_pd__28_29I rfl) rfl (W := 1) (by show 2 * 0 + _ ≤ _; exact Nat.le_of_eq rfl) (hb hby d5_27) (by decide) (by decide) (by decide) (by decide)
  obtain ⟨rfl, Nq138, eq138⟩ := hQ138
  have N138 := Fr.app N137 Nq138
  refine oS st138 ?_
  show own_go _ _ _ _ _ _ _ (T138.setTop (mkF m 30 #[.val (.ref a1), .val (.int (0 : Int32)), .unset] [(.int (3 : Int32)), (.int (0 : Int32))]))
  refine oS (fun _ k => XS.icmpNo X138.here hx rfl (hb hby d5_30) rfl (by decide) k) ?_
  refine oS (fun _ k => XS.aloadN X138.here hx rfl (hb hby d5_33) rfl rfl k) ?_
  refine oS (fun _ k => XS.iloadN X138.here hx rfl (hb hby d5_34) rfl k) ?_
  show own_go _ _ _ _ _ _ _ (T138.setTop (mkF m 35 #[.val (.ref a1), .val (.int (0 : Int32)), .unset] [(.int (0 : Int32)), (.ref a1)]))
  obtain ⟨v139, T139, L139, X139, hQ139, st139⟩ := own_callV X138 hx hZ (argsL := [(.int (0 : Int32))]) (rest := []) (rm_chL_3_0 l Z a0 hw a1 t k c0 c1 c2 zC vS h0 n0 O0 hS E_a1 F1 F2 V1 hc0 hl0) hown (ow hw 59 rfl) (ow hw 60 rfl) (notFace_of_selects (args := #[]) (mvT hZ (ow hw 62 rfl))) (ow hw 62 rfl) (ow hw 61 rfl) (ow hw 6 rfl) (ow hw 63 rfl) (by decide) eq138 E_a1 (g := (mkF m 35 #[.val (.ref a1), .val (.int (0 : Int32)), .unset] [(.int (0 : Int32)), (.ref a1)])) rfl (by rw [hml]; rfl) (lenOf own_pd__28I_29C rfl) rfl (W := 0) (by show 2 * 0 + _ ≤ _; exact Nat.le_of_eq rfl) (hb hby d5_35) (by decide) (by decide) (by decide) (by decide)
  obtain ⟨rfl, Nq139, eq139⟩ := hQ139
  have N139 := Fr.app N138 Nq139
  refine oS st139 ?_
  show own_go _ _ _ _ _ _ _ (T139.setTop (mkF m 38 #[.val (.ref a1), .val (.int (0 : Int32)), .unset] [(.int c0)]))
  refine oS (fun _ k => XS.istoreN X139.here hx rfl (hb hby d5_38) rfl (l' := #[.val (.ref a1), .val (.int (0 : Int32)), .val (.int c0)]) rfl k) ?_
  refine oS (fun _ k => XS.iloadN X139.here hx rfl (hb hby d5_39) rfl k) ?_
  refine oS (fun _ k => XS.bipush X139.here hx rfl (hb hby d5_40) k) ?_
  show own_go _ _ _ _ _ _ _ (T139.setTop (mkF m 42 #[.val (.ref a1), .val (.int (0 : Int32)), .val (.int c0)] [(.int (32 : Int32)), (.int c0)]))
  by_cases hc140 : c0 < (32 : Int32)
  · skip
    refine oS (fun _ k => XS.icmpYes X139.here hx rfl (pc0 := 42) (pc' := 51) rfl (hb hby d5_42) rfl (XT.ii_lt_t hc140) (by decide) (by decide) k) ?_
    refine oS (fun _ k => XS.aconstNull X139.here hx rfl (hb hby d5_51) k) ?_
    show own_go _ _ _ _ _ _ _ (T139.setTop (mkF m 52 #[.val (.ref a1), .val (.int (0 : Int32)), .val (.int c0)] [.null]))
    exact own_retA X139 hx hlk hret rfl rfl (hb hby d5_52) (by decide) (by decide) ⟨_, rfl, N139, eq139, fun q => absurd hc140 q.1.1, fun _ => rfl⟩
  · skip
    refine oS (fun _ k => XS.icmpNo X139.here hx rfl (hb hby d5_42) rfl (XT.ii_lt_f hc140) k) ?_
    refine oS (fun _ k => XS.iloadN X139.here hx rfl (hb hby d5_45) rfl k) ?_
    refine oS (fun _ k => XS.bipush X139.here hx rfl (hb hby d5_46) k) ?_
    show own_go _ _ _ _ _ _ _ (T139.setTop (mkF m 48 #[.val (.ref a1), .val (.int (0 : Int32)), .val (.int c0)] [(.int (126 : Int32)), (.int c0)]))
    by_cases hc141 : (126 : Int32) < c0
    · skip
      refine oS (fun _ k => XS.icmpNo X139.here hx rfl (hb hby d5_48) rfl (XT.ii_le_f hc141) k) ?_
      refine oS (fun _ k => XS.aconstNull X139.here hx rfl (hb hby d5_51) k) ?_
      show own_go _ _ _ _ _ _ _ (T139.setTop (mkF m 52 #[.val (.ref a1), .val (.int (0 : Int32)), .val (.int c0)] [.null]))
      exact own_retA X139 hx hlk hret rfl rfl (hb hby d5_52) (by decide) (by decide) ⟨_, rfl, N139, eq139, fun q => absurd hc141 q.1.2, fun _ => rfl⟩
    · skip
      refine oS (fun _ k => XS.icmpYes X139.here hx rfl (pc0 := 48) (pc' := 53) rfl (hb hby d5_48) rfl (XT.ii_le_t hc141) (by decide) (by decide) k) ?_
      refine oS (fun _ k => XS.iinc X139.here hx rfl (hb hby d5_53) rfl (l' := #[.val (.ref a1), .val (.int (1 : Int32)), .val (.int c0)]) rfl k) ?_
      refine oS (fun _ k => XS.goto X139.here hx rfl (pc0 := 56) (pc' := 25) rfl (hb hby d5_56) (by decide) (by decide) k) ?_
      refine oS (fun _ k => XS.iloadN X139.here hx rfl (hb hby d5_25) rfl k) ?_
      refine oS (fun _ k => XS.aloadN X139.here hx rfl (hb hby d5_26) rfl rfl k) ?_
      show own_go _ _ _ _ _ _ _ (T139.setTop (mkF m 27 #[.val (.ref a1), .val (.int (1 : Int32)), .val (.int c0)] [(.ref a1), (.int (1 : Int32))]))
      obtain ⟨v142, T142, L142, X142, hQ142, st142⟩ := own_callV X139 hx hZ (argsL := []) (rest := [(.int (1 : Int32))]) (rm_len_L_3 l Z a0 hw a1 t k _ zC vS h0 n0 O0 hS E_a1 F1 F2 V1) hown (ow hw 49 rfl) (ow hw 50 rfl) (notFace_of_selects (args := #[]) (mvT hZ (ow hw 52 rfl))) (ow hw 52 rfl) (ow hw 51 rfl) (ow hw 6 rfl) (ow hw 53 rfl) (by decide) eq139 E_a1 (g := (mkF m 27 #[.val (.ref a1), .val (.int (1 : Int32)), .val (.int c0)] [(.ref a1), (.int (1 : Int32))])) rfl (by rw [hml]; rfl) (lenOf own_pd__28_29I rfl) rfl (W := 1) (by show 2 * 0 + _ ≤ _; exact Nat.le_of_eq rfl) (hb hby d5_27) (by decide) (by decide) (by decide) (by decide)
      obtain ⟨rfl, Nq142, eq142⟩ := hQ142
      have N142 := Fr.app N139 Nq142
      refine oS st142 ?_
      show own_go _ _ _ _ _ _ _ (T142.setTop (mkF m 30 #[.val (.ref a1), .val (.int (1 : Int32)), .val (.int c0)] [(.int (3 : Int32)), (.int (1 : Int32))]))
      refine oS (fun _ k => XS.icmpNo X142.here hx rfl (hb hby d5_30) rfl (by decide) k) ?_
      refine oS (fun _ k => XS.aloadN X142.here hx rfl (hb hby d5_33) rfl rfl k) ?_
      refine oS (fun _ k => XS.iloadN X142.here hx rfl (hb hby d5_34) rfl k) ?_
      show own_go _ _ _ _ _ _ _ (T142.setTop (mkF m 35 #[.val (.ref a1), .val (.int (1 : Int32)), .val (.int c0)] [(.int (1 : Int32)), (.ref a1)]))
      obtain ⟨v143, T143, L143, X143, hQ143, st143⟩ := own_callV X142 hx hZ (argsL := [(.int (1 : Int32))]) (rest := []) (rm_chL_3_1 l Z a0 hw a1 t k c0 c1 c2 zC vS h0 n0 O0 hS E_a1 F1 F2 V1 hc1 hl1) hown (ow hw 59 rfl) (ow hw 60 rfl) (notFace_of_selects (args := #[]) (mvT hZ (ow hw 62 rfl))) (ow hw 62 rfl) (ow hw 61 rfl) (ow hw 6 rfl) (ow hw 63 rfl) (by decide) eq142 E_a1 (g := (mkF m 35 #[.val (.ref a1), .val (.int (1 : Int32)), .val (.int c0)] [(.int (1 : Int32)), (.ref a1)])) rfl (by rw [hml]; rfl) (lenOf own_pd__28I_29C rfl) rfl (W := 0) (by show 2 * 0 + _ ≤ _; exact Nat.le_of_eq rfl) (hb hby d5_35) (by decide) (by decide) (by decide) (by decide)
      obtain ⟨rfl, Nq143, eq143⟩ := hQ143
      have N143 := Fr.app N142 Nq143
      refine oS st143 ?_
      show own_go _ _ _ _ _ _ _ (T143.setTop (mkF m 38 #[.val (.ref a1), .val (.int (1 : Int32)), .val (.int c0)] [(.int c1)]))
      refine oS (fun _ k => XS.istoreN X143.here hx rfl (hb hby d5_38) rfl (l' := #[.val (.ref a1), .val (.int (1 : Int32)), .val (.int c1)]) rfl k) ?_
      refine oS (fun _ k => XS.iloadN X143.here hx rfl (hb hby d5_39) rfl k) ?_
      refine oS (fun _ k => XS.bipush X143.here hx rfl (hb hby d5_40) k) ?_
      show own_go _ _ _ _ _ _ _ (T143.setTop (mkF m 42 #[.val (.ref a1), .val (.int (1 : Int32)), .val (.int c1)] [(.int (32 : Int32)), (.int c1)]))
      by_cases hc144 : c1 < (32 : Int32)
      · skip
        refine oS (fun _ k => XS.icmpYes X143.here hx rfl (pc0 := 42) (pc' := 51) rfl (hb hby d5_42) rfl (XT.ii_lt_t hc144) (by decide) (by decide) k) ?_
        refine oS (fun _ k => XS.aconstNull X143.here hx rfl (hb hby d5_51) k) ?_
        show own_go _ _ _ _ _ _ _ (T143.setTop (mkF m 52 #[.val (.ref a1), .val (.int (1 : Int32)), .val (.int c1)] [.null]))
        exact own_retA X143 hx hlk hret rfl rfl (hb hby d5_52) (by decide) (by decide) ⟨_, rfl, N143, eq143, fun q => absurd hc144 q.2.1.1, fun _ => rfl⟩
      · skip
        refine oS (fun _ k => XS.icmpNo X143.here hx rfl (hb hby d5_42) rfl (XT.ii_lt_f hc144) k) ?_
        refine oS (fun _ k => XS.iloadN X143.here hx rfl (hb hby d5_45) rfl k) ?_
        refine oS (fun _ k => XS.bipush X143.here hx rfl (hb hby d5_46) k) ?_
        show own_go _ _ _ _ _ _ _ (T143.setTop (mkF m 48 #[.val (.ref a1), .val (.int (1 : Int32)), .val (.int c1)] [(.int (126 : Int32)), (.int c1)]))
        by_cases hc145 : (126 : Int32) < c1
        · skip
          refine oS (fun _ k => XS.icmpNo X143.here hx rfl (hb hby d5_48) rfl (XT.ii_le_f hc145) k) ?_
          refine oS (fun _ k => XS.aconstNull X143.here hx rfl (hb hby d5_51) k) ?_
          show own_go _ _ _ _ _ _ _ (T143.setTop (mkF m 52 #[.val (.ref a1), .val (.int (1 : Int32)), .val (.int c1)] [.null]))
          exact own_retA X143 hx hlk hret rfl rfl (hb hby d5_52) (by decide) (by decide) ⟨_, rfl, N143, eq143, fun q => absurd hc145 q.2.1.2, fun _ => rfl⟩
        · skip
          refine oS (fun _ k => XS.icmpYes X143.here hx rfl (pc0 := 48) (pc' := 53) rfl (hb hby d5_48) rfl (XT.ii_le_t hc145) (by decide) (by decide) k) ?_
          refine oS (fun _ k => XS.iinc X143.here hx rfl (hb hby d5_53) rfl (l' := #[.val (.ref a1), .val (.int (2 : Int32)), .val (.int c1)]) rfl k) ?_
          refine oS (fun _ k => XS.goto X143.here hx rfl (pc0 := 56) (pc' := 25) rfl (hb hby d5_56) (by decide) (by decide) k) ?_
          refine oS (fun _ k => XS.iloadN X143.here hx rfl (hb hby d5_25) rfl k) ?_
          refine oS (fun _ k => XS.aloadN X143.here hx rfl (hb hby d5_26) rfl rfl k) ?_
          show own_go _ _ _ _ _ _ _ (T143.setTop (mkF m 27 #[.val (.ref a1), .val (.int (2 : Int32)), .val (.int c1)] [(.ref a1), (.int (2 : Int32))]))
          obtain ⟨v146, T146, L146, X146, hQ146, st146⟩ := own_callV X143 hx hZ (argsL := []) (rest := [(.int (2 : Int32))]) (rm_len_L_3 l Z a0 hw a1 t k _ zC vS h0 n0 O0 hS E_a1 F1 F2 V1) hown (ow hw 49 rfl) (ow hw 50 rfl) (notFace_of_selects (args := #[]) (mvT hZ (ow hw 52 rfl))) (ow hw 52 rfl) (ow hw 51 rfl) (ow hw 6 rfl) (ow hw 53 rfl) (by decide) eq143 E_a1 (g := (mkF m 27 #[.val (.ref a1), .val (.int (2 : Int32)), .val (.int c1)] [(.ref a1), (.int (2 : Int32))])) rfl (by rw [hml]; rfl) (lenOf own_pd__28_29I rfl) rfl (W := 1) (by show 2 * 0 + _ ≤ _; exact Nat.le_of_eq rfl) (hb hby d5_27) (by decide) (by decide) (by decide) (by decide)
          obtain ⟨rfl, Nq146, eq146⟩ := hQ146
          have N146 := Fr.app N143 Nq146
          refine oS st146 ?_
          show own_go _ _ _ _ _ _ _ (T146.setTop (mkF m 30 #[.val (.ref a1), .val (.int (2 : Int32)), .val (.int c1)] [(.int (3 : Int32)), (.int (2 : Int32))]))
          refine oS (fun _ k => XS.icmpNo X146.here hx rfl (hb hby d5_30) rfl (by decide) k) ?_
          refine oS (fun _ k => XS.aloadN X146.here hx rfl (hb hby d5_33) rfl rfl k) ?_
          refine oS (fun _ k => XS.iloadN X146.here hx rfl (hb hby d5_34) rfl k) ?_
          show own_go _ _ _ _ _ _ _ (T146.setTop (mkF m 35 #[.val (.ref a1), .val (.int (2 : Int32)), .val (.int c1)] [(.int (2 : Int32)), (.ref a1)]))
          obtain ⟨v147, T147, L147, X147, hQ147, st147⟩ := own_callV X146 hx hZ (argsL := [(.int (2 : Int32))]) (rest := []) (rm_chL_3_2 l Z a0 hw a1 t k c0 c1 c2 zC vS h0 n0 O0 hS E_a1 F1 F2 V1 hc2 hl2) hown (ow hw 59 rfl) (ow hw 60 rfl) (notFace_of_selects (args := #[]) (mvT hZ (ow hw 62 rfl))) (ow hw 62 rfl) (ow hw 61 rfl) (ow hw 6 rfl) (ow hw 63 rfl) (by decide) eq146 E_a1 (g := (mkF m 35 #[.val (.ref a1), .val (.int (2 : Int32)), .val (.int c1)] [(.int (2 : Int32)), (.ref a1)])) rfl (by rw [hml]; rfl) (lenOf own_pd__28I_29C rfl) rfl (W := 0) (by show 2 * 0 + _ ≤ _; exact Nat.le_of_eq rfl) (hb hby d5_35) (by decide) (by decide) (by decide) (by decide)
          obtain ⟨rfl, Nq147, eq147⟩ := hQ147
          have N147 := Fr.app N146 Nq147
          refine oS st147 ?_
          show own_go _ _ _ _ _ _ _ (T147.setTop (mkF m 38 #[.val (.ref a1), .val (.int (2 : Int32)), .val (.int c1)] [(.int c2)]))
          refine oS (fun _ k => XS.istoreN X147.here hx rfl (hb hby d5_38) rfl (l' := #[.val (.ref a1), .val (.int (2 : Int32)), .val (.int c2)]) rfl k) ?_
          refine oS (fun _ k => XS.iloadN X147.here hx rfl (hb hby d5_39) rfl k) ?_
          refine oS (fun _ k => XS.bipush X147.here hx rfl (hb hby d5_40) k) ?_
          show own_go _ _ _ _ _ _ _ (T147.setTop (mkF m 42 #[.val (.ref a1), .val (.int (2 : Int32)), .val (.int c2)] [(.int (32 : Int32)), (.int c2)]))
          by_cases hc148 : c2 < (32 : Int32)
          · skip
            refine oS (fun _ k => XS.icmpYes X147.here hx rfl (pc0 := 42) (pc' := 51) rfl (hb hby d5_42) rfl (XT.ii_lt_t hc148) (by decide) (by decide) k) ?_
            refine oS (fun _ k => XS.aconstNull X147.here hx rfl (hb hby d5_51) k) ?_
            show own_go _ _ _ _ _ _ _ (T147.setTop (mkF m 52 #[.val (.ref a1), .val (.int (2 : Int32)), .val (.int c2)] [.null]))
            exact own_retA X147 hx hlk hret rfl rfl (hb hby d5_52) (by decide) (by decide) ⟨_, rfl, N147, eq147, fun q => absurd hc148 q.2.2.1, fun _ => rfl⟩
          · skip
            refine oS (fun _ k => XS.icmpNo X147.here hx rfl (hb hby d5_42) rfl (XT.ii_lt_f hc148) k) ?_
            refine oS (fun _ k => XS.iloadN X147.here hx rfl (hb hby d5_45) rfl k) ?_
            refine oS (fun _ k => XS.bipush X147.here hx rfl (hb hby d5_46) k) ?_
            show own_go _ _ _ _ _ _ _ (T147.setTop (mkF m 48 #[.val (.ref a1), .val (.int (2 : Int32)), .val (.int c2)] [(.int (126 : Int32)), (.int c2)]))
            by_cases hc149 : (126 : Int32) < c2
            · skip
              refine oS (fun _ k => XS.icmpNo X147.here hx rfl (hb hby d5_48) rfl (XT.ii_le_f hc149) k) ?_
              refine oS (fun _ k => XS.aconstNull X147.here hx rfl (hb hby d5_51) k) ?_
              show own_go _ _ _ _ _ _ _ (T147.setTop (mkF m 52 #[.val (.ref a1), .val (.int (2 : Int32)), .val (.int c2)] [.null]))
              exact own_retA X147 hx hlk hret rfl rfl (hb hby d5_52) (by decide) (by decide) ⟨_, rfl, N147, eq147, fun q => absurd hc149 q.2.2.2, fun _ => rfl⟩
            · skip
              refine oS (fun _ k => XS.icmpYes X147.here hx rfl (pc0 := 48) (pc' := 53) rfl (hb hby d5_48) rfl (XT.ii_le_t hc149) (by decide) (by decide) k) ?_
              refine oS (fun _ k => XS.iinc X147.here hx rfl (hb hby d5_53) rfl (l' := #[.val (.ref a1), .val (.int (3 : Int32)), .val (.int c2)]) rfl k) ?_
              refine oS (fun _ k => XS.goto X147.here hx rfl (pc0 := 56) (pc' := 25) rfl (hb hby d5_56) (by decide) (by decide) k) ?_
              refine oS (fun _ k => XS.iloadN X147.here hx rfl (hb hby d5_25) rfl k) ?_
              refine oS (fun _ k => XS.aloadN X147.here hx rfl (hb hby d5_26) rfl rfl k) ?_
              show own_go _ _ _ _ _ _ _ (T147.setTop (mkF m 27 #[.val (.ref a1), .val (.int (3 : Int32)), .val (.int c2)] [(.ref a1), (.int (3 : Int32))]))
              obtain ⟨v150, T150, L150, X150, hQ150, st150⟩ := own_callV X147 hx hZ (argsL := []) (rest := [(.int (3 : Int32))]) (rm_len_L_3 l Z a0 hw a1 t k _ zC vS h0 n0 O0 hS E_a1 F1 F2 V1) hown (ow hw 49 rfl) (ow hw 50 rfl) (notFace_of_selects (args := #[]) (mvT hZ (ow hw 52 rfl))) (ow hw 52 rfl) (ow hw 51 rfl) (ow hw 6 rfl) (ow hw 53 rfl) (by decide) eq147 E_a1 (g := (mkF m 27 #[.val (.ref a1), .val (.int (3 : Int32)), .val (.int c2)] [(.ref a1), (.int (3 : Int32))])) rfl (by rw [hml]; rfl) (lenOf own_pd__28_29I rfl) rfl (W := 1) (by show 2 * 0 + _ ≤ _; exact Nat.le_of_eq rfl) (hb hby d5_27) (by decide) (by decide) (by decide) (by decide)
              obtain ⟨rfl, Nq150, eq150⟩ := hQ150
              have N150 := Fr.app N147 Nq150
              refine oS st150 ?_
              show own_go _ _ _ _ _ _ _ (T150.setTop (mkF m 30 #[.val (.ref a1), .val (.int (3 : Int32)), .val (.int c2)] [(.int (3 : Int32)), (.int (3 : Int32))]))
              refine oS (fun _ k => XS.icmpYes X150.here hx rfl (pc0 := 30) (pc' := 59) rfl (hb hby d5_30) rfl (by decide) (by decide) (by decide) k) ?_
              refine oS (fun _ k => XS.aloadN X150.here hx rfl (hb hby d5_59) rfl rfl k) ?_
              show own_go _ _ _ _ _ _ _ (T150.setTop (mkF m 60 #[.val (.ref a1), .val (.int (3 : Int32)), .val (.int c2)] [(.ref a1)]))
              exact own_retA X150 hx hlk hret rfl rfl (hb hby d5_60) (by decide) (by decide) ⟨_, rfl, N150, eq150, fun _ => rfl, fun q => absurd (⟨⟨hc140, hc141⟩, ⟨hc144, hc145⟩, ⟨hc148, hc149⟩⟩ : own_ok c0 ∧ own_ok c1 ∧ own_ok c2) q⟩
theorem own_ef_rm_kpW_1 (m : MethodId) (a1 : Addr) : entryFrame m #[(.ref a1)] 3 = mkF m 0 #[.val (.ref a1), .unset, .unset] [] := by first | (simp [entryFrame, mkF, argsToLocals, Value.category]; done) | rfl
set_option maxRecDepth 65536 in
set_option maxHeartbeats 40000000 in
theorem rm_kpW_1 (l : Launch) (Z : State) (a0 : Array Value) (hw : ∀ d ∈ tables_1, d.before a0 Z = true) (a1 t : Addr) (k : ClassId) (c0 : Int32) (zC : Int32) (vS : Value) (h0 : Heap) (n0 : Nat) (O0 : Old Z n0 h0) (hS : own_S Z zC vS) (E_a1 : Exa Z h0 a1 "java/lang/String") (F1 : Fld Z h0 a1 "java/lang/String" "value" "[B" (.ref t)) (F2 : Fld Z h0 a1 "java/lang/String" "coder" "B" (.int (1 : Int32))) (V1 : Arv Z h0 t k .byte (2 : Int32) [(.int (c0.toInt8.toInt32)), (.int ((c0 >>> ((8 : Int32) &&& 31)).toInt8.toInt32))] (.int (0 : Int32))) (hc0 : own_ch c0) :
    own_Met l Z (⟨"com/example/lynceus/lynceus/probe/HeaderValue", "keepable", "(Ljava/lang/String;)Ljava/lang/String;"⟩ : MethodName) prog_50_method_2_code 3 (some (.object "java/lang/String")) [] ({ frames := 5, cells := 0, slots := 0, locals := 84 } : Room) #[(.ref a1)] h0 (fun v h L => ∃ w, v = some w ∧ Fr n0 L ∧ h = h0 ∧ ((own_ok c0) → w = .ref a1) ∧ (¬ (own_ok c0) → w = .null)) := by
  refine own_body own_pn_5 ?_
  intro p e s m below meth c s₁ hx hby hml hown hnm hret hlk X0 hZ e0
  replace hown : s.vm.findClass "com/example/lynceus/lynceus/probe/HeaderValue" = some m.cls := hown
  have N0 := Fr.nil n0
  have K0 := Keep.refl h0 []
  refine oS (fun _ k => castTop (own_ef_rm_kpW_1 m a1) k) ?_
  show own_go _ _ _ _ _ _ _ (s₁.setTop (mkF m 0 #[.val (.ref a1), .unset, .unset] []))
  refine oS (fun _ k => XS.aloadN X0.here hx rfl (hb hby d5_0) rfl rfl k) ?_
  show own_go _ _ _ _ _ _ _ (s₁.setTop (mkF m 1 #[.val (.ref a1), .unset, .unset] [(.ref a1)]))
  refine oS (fun _ k => XS.ifnullNo X0.here hx rfl (hb hby d5_1) rfl k) ?_
  refine oS (fun _ k => XS.aloadN X0.here hx rfl (hb hby d5_4) rfl rfl k) ?_
  show own_go _ _ _ _ _ _ _ (s₁.setTop (mkF m 5 #[.val (.ref a1), .unset, .unset] [(.ref a1)]))
  obtain ⟨v151, T151, L151, X151, hQ151, st151⟩ := own_callV X0 hx hZ (argsL := []) (rest := []) (rm_emp_2 l Z a0 hw a1 t k _ h0 n0 O0 F1 V1) hown (ow hw 30 rfl) (ow hw 31 rfl) (notFace_of_selects (args := #[]) (mvT hZ (ow hw 33 rfl))) (ow hw 33 rfl) (ow hw 32 rfl) (ow hw 6 rfl) (ow hw 34 rfl) (by decide) e0 E_a1 (g := (mkF m 5 #[.val (.ref a1), .unset, .unset] [(.ref a1)])) rfl (by rw [hml]; rfl) (lenOf own_pd__28_29Z rfl) rfl (W := 0) (by show 2 * 0 + _ ≤ _; exact Nat.le_of_eq rfl) (hb hby d5_5) (by decide) (by decide) (by decide) (by decide)
  obtain ⟨rfl, Nq151, eq151⟩ := hQ151
  have N151 := Fr.app N0 Nq151
  refine oS st151 ?_
  show own_go _ _ _ _ _ _ _ (T151.setTop (mkF m 8 #[.val (.ref a1), .unset, .unset] [(.int (0 : Int32))]))
  refine oS (fun _ k => XS.ifNo X151.here hx rfl (hb hby d5_8) rfl (by decide) k) ?_
  refine oS (fun _ k => XS.aloadN X151.here hx rfl (hb hby d5_11) rfl rfl k) ?_
  show own_go _ _ _ _ _ _ _ (T151.setTop (mkF m 12 #[.val (.ref a1), .unset, .unset] [(.ref a1)]))
  obtain ⟨v152, T152, L152, X152, hQ152, st152⟩ := own_callV X151 hx hZ (argsL := []) (rest := []) (rm_len_W_1 l Z a0 hw a1 t k _ zC vS h0 n0 O0 hS E_a1 F1 F2 V1) hown (ow hw 49 rfl) (ow hw 50 rfl) (notFace_of_selects (args := #[]) (mvT hZ (ow hw 52 rfl))) (ow hw 52 rfl) (ow hw 51 rfl) (ow hw 6 rfl) (ow hw 53 rfl) (by decide) eq151 E_a1 (g := (mkF m 12 #[.val (.ref a1), .unset, .unset] [(.ref a1)])) rfl (by rw [hml]; rfl) (lenOf own_pd__28_29I rfl) rfl (W := 0) (by show 2 * 0 + _ ≤ _; exact Nat.le_of_eq rfl) (hb hby d5_12) (by decide) (by decide) (by decide) (by decide)
  obtain ⟨rfl, Nq152, eq152⟩ := hQ152
  have N152 := Fr.app N151 Nq152
  refine oS st152 ?_
  show own_go _ _ _ _ _ _ _ (T152.setTop (mkF m 15 #[.val (.ref a1), .unset, .unset] [(.int (1 : Int32))]))
  refine oS (fun _ k => XS.sipush X152.here hx rfl (hb hby d5_15) k) ?_
  show own_go _ _ _ _ _ _ _ (T152.setTop (mkF m 18 #[.val (.ref a1), .unset, .unset] [(.int (1024 : Int32)), (.int (1 : Int32))]))
  refine oS (fun _ k => XS.icmpYes X152.here hx rfl (pc0 := 18) (pc' := 23) rfl (hb hby d5_18) rfl (by decide) (by decide) (by decide) k) ?_
  refine oS (fun _ k => XS.iconst X152.here hx rfl (hb hby d5_23) k) ?_
  refine oS (fun _ k => XS.istoreN X152.here hx rfl (hb hby d5_24) rfl (l' := #[.val (.ref a1), .val (.int (0 : Int32)), .unset]) rfl k) ?_
  refine oS (fun _ k => XS.iloadN X152.here hx rfl (hb hby d5_25) rfl k) ?_
  refine oS (fun _ k => XS.aloadN X152.here hx rfl (hb hby d5_26) rfl rfl k) ?_
  show own_go _ _ _ _ _ _ _ (T152.setTop (mkF m 27 #[.val (.ref a1), .val (.int (0 : Int32)), .unset] [(.ref a1), (.int (0 : Int32))]))
  obtain ⟨v153, T153, L153, X153, hQ153, st153⟩ := own_callV X152 hx hZ (argsL := []) (rest := [(.int (0 : Int32))]) (rm_len_W_1 l Z a0 hw a1 t k _ zC vS h0 n0 O0 hS E_a1 F1 F2 V1) hown (ow hw 49 rfl) (ow hw 50 rfl) (notFace_of_selects (args := #[]) (mvT hZ (ow hw 52 rfl))) (ow hw 52 rfl) (ow hw 51 rfl) (ow hw 6 rfl) (ow hw 53 rfl) (by decide) eq152 E_a1 (g := (mkF m 27 #[.val (.ref a1), .val (.int (0 : Int32)), .unset] [(.ref a1), (.int (0 : Int32))])) rfl (by rw [hml]; rfl) (lenOf own_pd__28_29I rfl) rfl (W := 1) (by show 2 * 0 + _ ≤ _; exact Nat.le_of_eq rfl) (hb hby d5_27) (by decide) (by decide) (by decide) (by decide)
  obtain ⟨rfl, Nq153, eq153⟩ := hQ153
  have N153 := Fr.app N152 Nq153
  refine oS st153 ?_
  show own_go _ _ _ _ _ _ _ (T153.setTop (mkF m 30 #[.val (.ref a1), .val (.int (0 : Int32)), .unset] [(.int (1 : Int32)), (.int (0 : Int32))]))
  refine oS (fun _ k => XS.icmpNo X153.here hx rfl (hb hby d5_30) rfl (by decide) k) ?_
  refine oS (fun _ k => XS.aloadN X153.here hx rfl (hb hby d5_33) rfl rfl k) ?_
  refine oS (fun _ k => XS.iloadN X153.here hx rfl (hb hby d5_34) rfl k) ?_
  show own_go _ _ _ _ _ _ _ (T153.setTop (mkF m 35 #[.val (.ref a1), .val (.int (0 : Int32)), .unset] [(.int (0 : Int32)), (.ref a1)]))
  obtain ⟨v154, T154, L154, X154, hQ154, st154⟩ := own_callV X153 hx hZ (argsL := [(.int (0 : Int32))]) (rest := []) (rm_chW_1_0 l Z a0 hw a1 t k c0 zC vS h0 n0 O0 hS E_a1 F1 F2 V1 hc0) hown (ow hw 59 rfl) (ow hw 60 rfl) (notFace_of_selects (args := #[]) (mvT hZ (ow hw 62 rfl))) (ow hw 62 rfl) (ow hw 61 rfl) (ow hw 6 rfl) (ow hw 63 rfl) (by decide) eq153 E_a1 (g := (mkF m 35 #[.val (.ref a1), .val (.int (0 : Int32)), .unset] [(.int (0 : Int32)), (.ref a1)])) rfl (by rw [hml]; rfl) (lenOf own_pd__28I_29C rfl) rfl (W := 0) (by show 2 * 0 + _ ≤ _; exact Nat.le_of_eq rfl) (hb hby d5_35) (by decide) (by decide) (by decide) (by decide)
  obtain ⟨rfl, Nq154, eq154⟩ := hQ154
  have N154 := Fr.app N153 Nq154
  refine oS st154 ?_
  show own_go _ _ _ _ _ _ _ (T154.setTop (mkF m 38 #[.val (.ref a1), .val (.int (0 : Int32)), .unset] [(.int c0)]))
  refine oS (fun _ k => XS.istoreN X154.here hx rfl (hb hby d5_38) rfl (l' := #[.val (.ref a1), .val (.int (0 : Int32)), .val (.int c0)]) rfl k) ?_
  refine oS (fun _ k => XS.iloadN X154.here hx rfl (hb hby d5_39) rfl k) ?_
  refine oS (fun _ k => XS.bipush X154.here hx rfl (hb hby d5_40) k) ?_
  show own_go _ _ _ _ _ _ _ (T154.setTop (mkF m 42 #[.val (.ref a1), .val (.int (0 : Int32)), .val (.int c0)] [(.int (32 : Int32)), (.int c0)]))
  by_cases hc155 : c0 < (32 : Int32)
  · skip
    refine oS (fun _ k => XS.icmpYes X154.here hx rfl (pc0 := 42) (pc' := 51) rfl (hb hby d5_42) rfl (XT.ii_lt_t hc155) (by decide) (by decide) k) ?_
    refine oS (fun _ k => XS.aconstNull X154.here hx rfl (hb hby d5_51) k) ?_
    show own_go _ _ _ _ _ _ _ (T154.setTop (mkF m 52 #[.val (.ref a1), .val (.int (0 : Int32)), .val (.int c0)] [.null]))
    exact own_retA X154 hx hlk hret rfl rfl (hb hby d5_52) (by decide) (by decide) ⟨_, rfl, N154, eq154, fun q => absurd hc155 q.1, fun _ => rfl⟩
  · skip
    refine oS (fun _ k => XS.icmpNo X154.here hx rfl (hb hby d5_42) rfl (XT.ii_lt_f hc155) k) ?_
    refine oS (fun _ k => XS.iloadN X154.here hx rfl (hb hby d5_45) rfl k) ?_
    refine oS (fun _ k => XS.bipush X154.here hx rfl (hb hby d5_46) k) ?_
    show own_go _ _ _ _ _ _ _ (T154.setTop (mkF m 48 #[.val (.ref a1), .val (.int (0 : Int32)), .val (.int c0)] [(.int (126 : Int32)), (.int c0)]))
    by_cases hc156 : (126 : Int32) < c0
    · skip
      refine oS (fun _ k => XS.icmpNo X154.here hx rfl (hb hby d5_48) rfl (XT.ii_le_f hc156) k) ?_
      refine oS (fun _ k => XS.aconstNull X154.here hx rfl (hb hby d5_51) k) ?_
      show own_go _ _ _ _ _ _ _ (T154.setTop (mkF m 52 #[.val (.ref a1), .val (.int (0 : Int32)), .val (.int c0)] [.null]))
      exact own_retA X154 hx hlk hret rfl rfl (hb hby d5_52) (by decide) (by decide) ⟨_, rfl, N154, eq154, fun q => absurd hc156 q.2, fun _ => rfl⟩
    · skip
      refine oS (fun _ k => XS.icmpYes X154.here hx rfl (pc0 := 48) (pc' := 53) rfl (hb hby d5_48) rfl (XT.ii_le_t hc156) (by decide) (by decide) k) ?_
      refine oS (fun _ k => XS.iinc X154.here hx rfl (hb hby d5_53) rfl (l' := #[.val (.ref a1), .val (.int (1 : Int32)), .val (.int c0)]) rfl k) ?_
      refine oS (fun _ k => XS.goto X154.here hx rfl (pc0 := 56) (pc' := 25) rfl (hb hby d5_56) (by decide) (by decide) k) ?_
      refine oS (fun _ k => XS.iloadN X154.here hx rfl (hb hby d5_25) rfl k) ?_
      refine oS (fun _ k => XS.aloadN X154.here hx rfl (hb hby d5_26) rfl rfl k) ?_
      show own_go _ _ _ _ _ _ _ (T154.setTop (mkF m 27 #[.val (.ref a1), .val (.int (1 : Int32)), .val (.int c0)] [(.ref a1), (.int (1 : Int32))]))
      obtain ⟨v157, T157, L157, X157, hQ157, st157⟩ := own_callV X154 hx hZ (argsL := []) (rest := [(.int (1 : Int32))]) (rm_len_W_1 l Z a0 hw a1 t k _ zC vS h0 n0 O0 hS E_a1 F1 F2 V1) hown (ow hw 49 rfl) (ow hw 50 rfl) (notFace_of_selects (args := #[]) (mvT hZ (ow hw 52 rfl))) (ow hw 52 rfl) (ow hw 51 rfl) (ow hw 6 rfl) (ow hw 53 rfl) (by decide) eq154 E_a1 (g := (mkF m 27 #[.val (.ref a1), .val (.int (1 : Int32)), .val (.int c0)] [(.ref a1), (.int (1 : Int32))])) rfl (by rw [hml]; rfl) (lenOf own_pd__28_29I rfl) rfl (W := 1) (by show 2 * 0 + _ ≤ _; exact Nat.le_of_eq rfl) (hb hby d5_27) (by decide) (by decide) (by decide) (by decide)
      obtain ⟨rfl, Nq157, eq157⟩ := hQ157
      have N157 := Fr.app N154 Nq157
      refine oS st157 ?_
      show own_go _ _ _ _ _ _ _ (T157.setTop (mkF m 30 #[.val (.ref a1), .val (.int (1 : Int32)), .val (.int c0)] [(.int (1 : Int32)), (.int (1 : Int32))]))
      refine oS (fun _ k => XS.icmpYes X157.here hx rfl (pc0 := 30) (pc' := 59) rfl (hb hby d5_30) rfl (by decide) (by decide) (by decide) k) ?_
      refine oS (fun _ k => XS.aloadN X157.here hx rfl (hb hby d5_59) rfl rfl k) ?_
      show own_go _ _ _ _ _ _ _ (T157.setTop (mkF m 60 #[.val (.ref a1), .val (.int (1 : Int32)), .val (.int c0)] [(.ref a1)]))
      exact own_retA X157 hx hlk hret rfl rfl (hb hby d5_60) (by decide) (by decide) ⟨_, rfl, N157, eq157, fun _ => rfl, fun q => absurd (⟨hc155, hc156⟩ : own_ok c0) q⟩
theorem own_ef_rm_kpW_2 (m : MethodId) (a1 : Addr) : entryFrame m #[(.ref a1)] 3 = mkF m 0 #[.val (.ref a1), .unset, .unset] [] := by first | (simp [entryFrame, mkF, argsToLocals, Value.category]; done) | rfl
set_option maxRecDepth 65536 in
set_option maxHeartbeats 40000000 in
theorem rm_kpW_2 (l : Launch) (Z : State) (a0 : Array Value) (hw : ∀ d ∈ tables_1, d.before a0 Z = true) (a1 t : Addr) (k : ClassId) (c0 c1 : Int32) (zC : Int32) (vS : Value) (h0 : Heap) (n0 : Nat) (O0 : Old Z n0 h0) (hS : own_S Z zC vS) (E_a1 : Exa Z h0 a1 "java/lang/String") (F1 : Fld Z h0 a1 "java/lang/String" "value" "[B" (.ref t)) (F2 : Fld Z h0 a1 "java/lang/String" "coder" "B" (.int (1 : Int32))) (V1 : Arv Z h0 t k .byte (4 : Int32) [(.int (c0.toInt8.toInt32)), (.int ((c0 >>> ((8 : Int32) &&& 31)).toInt8.toInt32)), (.int (c1.toInt8.toInt32)), (.int ((c1 >>> ((8 : Int32) &&& 31)).toInt8.toInt32))] (.int (0 : Int32))) (hc0 : own_ch c0) (hc1 : own_ch c1) :
    own_Met l Z (⟨"com/example/lynceus/lynceus/probe/HeaderValue", "keepable", "(Ljava/lang/String;)Ljava/lang/String;"⟩ : MethodName) prog_50_method_2_code 3 (some (.object "java/lang/String")) [] ({ frames := 5, cells := 0, slots := 0, locals := 84 } : Room) #[(.ref a1)] h0 (fun v h L => ∃ w, v = some w ∧ Fr n0 L ∧ h = h0 ∧ ((own_ok c0 ∧ own_ok c1) → w = .ref a1) ∧ (¬ (own_ok c0 ∧ own_ok c1) → w = .null)) := by
  refine own_body own_pn_5 ?_
  intro p e s m below meth c s₁ hx hby hml hown hnm hret hlk X0 hZ e0
  replace hown : s.vm.findClass "com/example/lynceus/lynceus/probe/HeaderValue" = some m.cls := hown
  have N0 := Fr.nil n0
  have K0 := Keep.refl h0 []
  refine oS (fun _ k => castTop (own_ef_rm_kpW_2 m a1) k) ?_
  show own_go _ _ _ _ _ _ _ (s₁.setTop (mkF m 0 #[.val (.ref a1), .unset, .unset] []))
  refine oS (fun _ k => XS.aloadN X0.here hx rfl (hb hby d5_0) rfl rfl k) ?_
  show own_go _ _ _ _ _ _ _ (s₁.setTop (mkF m 1 #[.val (.ref a1), .unset, .unset] [(.ref a1)]))
  refine oS (fun _ k => XS.ifnullNo X0.here hx rfl (hb hby d5_1) rfl k) ?_
  refine oS (fun _ k => XS.aloadN X0.here hx rfl (hb hby d5_4) rfl rfl k) ?_
  show own_go _ _ _ _ _ _ _ (s₁.setTop (mkF m 5 #[.val (.ref a1), .unset, .unset] [(.ref a1)]))
  obtain ⟨v158, T158, L158, X158, hQ158, st158⟩ := own_callV X0 hx hZ (argsL := []) (rest := []) (rm_emp_4 l Z a0 hw a1 t k _ h0 n0 O0 F1 V1) hown (ow hw 30 rfl) (ow hw 31 rfl) (notFace_of_selects (args := #[]) (mvT hZ (ow hw 33 rfl))) (ow hw 33 rfl) (ow hw 32 rfl) (ow hw 6 rfl) (ow hw 34 rfl) (by decide) e0 E_a1 (g := (mkF m 5 #[.val (.ref a1), .unset, .unset] [(.ref a1)])) rfl (by rw [hml]; rfl) (lenOf own_pd__28_29Z rfl) rfl (W := 0) (by show 2 * 0 + _ ≤ _; exact Nat.le_of_eq rfl) (hb hby d5_5) (by decide) (by decide) (by decide) (by decide)
  obtain ⟨rfl, Nq158, eq158⟩ := hQ158
  have N158 := Fr.app N0 Nq158
  refine oS st158 ?_
  show own_go _ _ _ _ _ _ _ (T158.setTop (mkF m 8 #[.val (.ref a1), .unset, .unset] [(.int (0 : Int32))]))
  refine oS (fun _ k => XS.ifNo X158.here hx rfl (hb hby d5_8) rfl (by decide) k) ?_
  refine oS (fun _ k => XS.aloadN X158.here hx rfl (hb hby d5_11) rfl rfl k) ?_
  show own_go _ _ _ _ _ _ _ (T158.setTop (mkF m 12 #[.val (.ref a1), .unset, .unset] [(.ref a1)]))
  obtain ⟨v159, T159, L159, X159, hQ159, st159⟩ := own_callV X158 hx hZ (argsL := []) (rest := []) (rm_len_W_2 l Z a0 hw a1 t k _ zC vS h0 n0 O0 hS E_a1 F1 F2 V1) hown (ow hw 49 rfl) (ow hw 50 rfl) (notFace_of_selects (args := #[]) (mvT hZ (ow hw 52 rfl))) (ow hw 52 rfl) (ow hw 51 rfl) (ow hw 6 rfl) (ow hw 53 rfl) (by decide) eq158 E_a1 (g := (mkF m 12 #[.val (.ref a1), .unset, .unset] [(.ref a1)])) rfl (by rw [hml]; rfl) (lenOf own_pd__28_29I rfl) rfl (W := 0) (by show 2 * 0 + _ ≤ _; exact Nat.le_of_eq rfl) (hb hby d5_12) (by decide) (by decide) (by decide) (by decide)
  obtain ⟨rfl, Nq159, eq159⟩ := hQ159
  have N159 := Fr.app N158 Nq159
  refine oS st159 ?_
  show own_go _ _ _ _ _ _ _ (T159.setTop (mkF m 15 #[.val (.ref a1), .unset, .unset] [(.int (2 : Int32))]))
  refine oS (fun _ k => XS.sipush X159.here hx rfl (hb hby d5_15) k) ?_
  show own_go _ _ _ _ _ _ _ (T159.setTop (mkF m 18 #[.val (.ref a1), .unset, .unset] [(.int (1024 : Int32)), (.int (2 : Int32))]))
  refine oS (fun _ k => XS.icmpYes X159.here hx rfl (pc0 := 18) (pc' := 23) rfl (hb hby d5_18) rfl (by decide) (by decide) (by decide) k) ?_
  refine oS (fun _ k => XS.iconst X159.here hx rfl (hb hby d5_23) k) ?_
  refine oS (fun _ k => XS.istoreN X159.here hx rfl (hb hby d5_24) rfl (l' := #[.val (.ref a1), .val (.int (0 : Int32)), .unset]) rfl k) ?_
  refine oS (fun _ k => XS.iloadN X159.here hx rfl (hb hby d5_25) rfl k) ?_
  refine oS (fun _ k => XS.aloadN X159.here hx rfl (hb hby d5_26) rfl rfl k) ?_
  show own_go _ _ _ _ _ _ _ (T159.setTop (mkF m 27 #[.val (.ref a1), .val (.int (0 : Int32)), .unset] [(.ref a1), (.int (0 : Int32))]))
  obtain ⟨v160, T160, L160, X160, hQ160, st160⟩ := own_callV X159 hx hZ (argsL := []) (rest := [(.int (0 : Int32))]) (rm_len_W_2 l Z a0 hw a1 t k _ zC vS h0 n0 O0 hS E_a1 F1 F2 V1) hown (ow hw 49 rfl) (ow hw 50 rfl) (notFace_of_selects (args := #[]) (mvT hZ (ow hw 52 rfl))) (ow hw 52 rfl) (ow hw 51 rfl) (ow hw 6 rfl) (ow hw 53 rfl) (by decide) eq159 E_a1 (g := (mkF m 27 #[.val (.ref a1), .val (.int (0 : Int32)), .unset] [(.ref a1), (.int (0 : Int32))])) rfl (by rw [hml]; rfl) (lenOf own_pd__28_29I rfl) rfl (W := 1) (by show 2 * 0 + _ ≤ _; exact Nat.le_of_eq rfl) (hb hby d5_27) (by decide) (by decide) (by decide) (by decide)
  obtain ⟨rfl, Nq160, eq160⟩ := hQ160
  have N160 := Fr.app N159 Nq160
  refine oS st160 ?_
  show own_go _ _ _ _ _ _ _ (T160.setTop (mkF m 30 #[.val (.ref a1), .val (.int (0 : Int32)), .unset] [(.int (2 : Int32)), (.int (0 : Int32))]))
  refine oS (fun _ k => XS.icmpNo X160.here hx rfl (hb hby d5_30) rfl (by decide) k) ?_
  refine oS (fun _ k => XS.aloadN X160.here hx rfl (hb hby d5_33) rfl rfl k) ?_
  refine oS (fun _ k => XS.iloadN X160.here hx rfl (hb hby d5_34) rfl k) ?_
  show own_go _ _ _ _ _ _ _ (T160.setTop (mkF m 35 #[.val (.ref a1), .val (.int (0 : Int32)), .unset] [(.int (0 : Int32)), (.ref a1)]))
  obtain ⟨v161, T161, L161, X161, hQ161, st161⟩ := own_callV X160 hx hZ (argsL := [(.int (0 : Int32))]) (rest := []) (rm_chW_2_0 l Z a0 hw a1 t k c0 c1 zC vS h0 n0 O0 hS E_a1 F1 F2 V1 hc0) hown (ow hw 59 rfl) (ow hw 60 rfl) (notFace_of_selects (args := #[]) (mvT hZ (ow hw 62 rfl))) (ow hw 62 rfl) (ow hw 61 rfl) (ow hw 6 rfl) (ow hw 63 rfl) (by decide) eq160 E_a1 (g := (mkF m 35 #[.val (.ref a1), .val (.int (0 : Int32)), .unset] [(.int (0 : Int32)), (.ref a1)])) rfl (by rw [hml]; rfl) (lenOf own_pd__28I_29C rfl) rfl (W := 0) (by show 2 * 0 + _ ≤ _; exact Nat.le_of_eq rfl) (hb hby d5_35) (by decide) (by decide) (by decide) (by decide)
  obtain ⟨rfl, Nq161, eq161⟩ := hQ161
  have N161 := Fr.app N160 Nq161
  refine oS st161 ?_
  show own_go _ _ _ _ _ _ _ (T161.setTop (mkF m 38 #[.val (.ref a1), .val (.int (0 : Int32)), .unset] [(.int c0)]))
  refine oS (fun _ k => XS.istoreN X161.here hx rfl (hb hby d5_38) rfl (l' := #[.val (.ref a1), .val (.int (0 : Int32)), .val (.int c0)]) rfl k) ?_
  refine oS (fun _ k => XS.iloadN X161.here hx rfl (hb hby d5_39) rfl k) ?_
  refine oS (fun _ k => XS.bipush X161.here hx rfl (hb hby d5_40) k) ?_
  show own_go _ _ _ _ _ _ _ (T161.setTop (mkF m 42 #[.val (.ref a1), .val (.int (0 : Int32)), .val (.int c0)] [(.int (32 : Int32)), (.int c0)]))
  by_cases hc162 : c0 < (32 : Int32)
  · skip
    refine oS (fun _ k => XS.icmpYes X161.here hx rfl (pc0 := 42) (pc' := 51) rfl (hb hby d5_42) rfl (XT.ii_lt_t hc162) (by decide) (by decide) k) ?_
    refine oS (fun _ k => XS.aconstNull X161.here hx rfl (hb hby d5_51) k) ?_
    show own_go _ _ _ _ _ _ _ (T161.setTop (mkF m 52 #[.val (.ref a1), .val (.int (0 : Int32)), .val (.int c0)] [.null]))
    exact own_retA X161 hx hlk hret rfl rfl (hb hby d5_52) (by decide) (by decide) ⟨_, rfl, N161, eq161, fun q => absurd hc162 q.1.1, fun _ => rfl⟩
  · skip
    refine oS (fun _ k => XS.icmpNo X161.here hx rfl (hb hby d5_42) rfl (XT.ii_lt_f hc162) k) ?_
    refine oS (fun _ k => XS.iloadN X161.here hx rfl (hb hby d5_45) rfl k) ?_
    refine oS (fun _ k => XS.bipush X161.here hx rfl (hb hby d5_46) k) ?_
    show own_go _ _ _ _ _ _ _ (T161.setTop (mkF m 48 #[.val (.ref a1), .val (.int (0 : Int32)), .val (.int c0)] [(.int (126 : Int32)), (.int c0)]))
    by_cases hc163 : (126 : Int32) < c0
    · skip
      refine oS (fun _ k => XS.icmpNo X161.here hx rfl (hb hby d5_48) rfl (XT.ii_le_f hc163) k) ?_
      refine oS (fun _ k => XS.aconstNull X161.here hx rfl (hb hby d5_51) k) ?_
      show own_go _ _ _ _ _ _ _ (T161.setTop (mkF m 52 #[.val (.ref a1), .val (.int (0 : Int32)), .val (.int c0)] [.null]))
      exact own_retA X161 hx hlk hret rfl rfl (hb hby d5_52) (by decide) (by decide) ⟨_, rfl, N161, eq161, fun q => absurd hc163 q.1.2, fun _ => rfl⟩
    · skip
      refine oS (fun _ k => XS.icmpYes X161.here hx rfl (pc0 := 48) (pc' := 53) rfl (hb hby d5_48) rfl (XT.ii_le_t hc163) (by decide) (by decide) k) ?_
      refine oS (fun _ k => XS.iinc X161.here hx rfl (hb hby d5_53) rfl (l' := #[.val (.ref a1), .val (.int (1 : Int32)), .val (.int c0)]) rfl k) ?_
      refine oS (fun _ k => XS.goto X161.here hx rfl (pc0 := 56) (pc' := 25) rfl (hb hby d5_56) (by decide) (by decide) k) ?_
      refine oS (fun _ k => XS.iloadN X161.here hx rfl (hb hby d5_25) rfl k) ?_
      refine oS (fun _ k => XS.aloadN X161.here hx rfl (hb hby d5_26) rfl rfl k) ?_
      show own_go _ _ _ _ _ _ _ (T161.setTop (mkF m 27 #[.val (.ref a1), .val (.int (1 : Int32)), .val (.int c0)] [(.ref a1), (.int (1 : Int32))]))
      obtain ⟨v164, T164, L164, X164, hQ164, st164⟩ := own_callV X161 hx hZ (argsL := []) (rest := [(.int (1 : Int32))]) (rm_len_W_2 l Z a0 hw a1 t k _ zC vS h0 n0 O0 hS E_a1 F1 F2 V1) hown (ow hw 49 rfl) (ow hw 50 rfl) (notFace_of_selects (args := #[]) (mvT hZ (ow hw 52 rfl))) (ow hw 52 rfl) (ow hw 51 rfl) (ow hw 6 rfl) (ow hw 53 rfl) (by decide) eq161 E_a1 (g := (mkF m 27 #[.val (.ref a1), .val (.int (1 : Int32)), .val (.int c0)] [(.ref a1), (.int (1 : Int32))])) rfl (by rw [hml]; rfl) (lenOf own_pd__28_29I rfl) rfl (W := 1) (by show 2 * 0 + _ ≤ _; exact Nat.le_of_eq rfl) (hb hby d5_27) (by decide) (by decide) (by decide) (by decide)
      obtain ⟨rfl, Nq164, eq164⟩ := hQ164
      have N164 := Fr.app N161 Nq164
      refine oS st164 ?_
      show own_go _ _ _ _ _ _ _ (T164.setTop (mkF m 30 #[.val (.ref a1), .val (.int (1 : Int32)), .val (.int c0)] [(.int (2 : Int32)), (.int (1 : Int32))]))
      refine oS (fun _ k => XS.icmpNo X164.here hx rfl (hb hby d5_30) rfl (by decide) k) ?_
      refine oS (fun _ k => XS.aloadN X164.here hx rfl (hb hby d5_33) rfl rfl k) ?_
      refine oS (fun _ k => XS.iloadN X164.here hx rfl (hb hby d5_34) rfl k) ?_
      show own_go _ _ _ _ _ _ _ (T164.setTop (mkF m 35 #[.val (.ref a1), .val (.int (1 : Int32)), .val (.int c0)] [(.int (1 : Int32)), (.ref a1)]))
      obtain ⟨v165, T165, L165, X165, hQ165, st165⟩ := own_callV X164 hx hZ (argsL := [(.int (1 : Int32))]) (rest := []) (rm_chW_2_1 l Z a0 hw a1 t k c0 c1 zC vS h0 n0 O0 hS E_a1 F1 F2 V1 hc1) hown (ow hw 59 rfl) (ow hw 60 rfl) (notFace_of_selects (args := #[]) (mvT hZ (ow hw 62 rfl))) (ow hw 62 rfl) (ow hw 61 rfl) (ow hw 6 rfl) (ow hw 63 rfl) (by decide) eq164 E_a1 (g := (mkF m 35 #[.val (.ref a1), .val (.int (1 : Int32)), .val (.int c0)] [(.int (1 : Int32)), (.ref a1)])) rfl (by rw [hml]; rfl) (lenOf own_pd__28I_29C rfl) rfl (W := 0) (by show 2 * 0 + _ ≤ _; exact Nat.le_of_eq rfl) (hb hby d5_35) (by decide) (by decide) (by decide) (by decide)
      obtain ⟨rfl, Nq165, eq165⟩ := hQ165
      have N165 := Fr.app N164 Nq165
      refine oS st165 ?_
      show own_go _ _ _ _ _ _ _ (T165.setTop (mkF m 38 #[.val (.ref a1), .val (.int (1 : Int32)), .val (.int c0)] [(.int c1)]))
      refine oS (fun _ k => XS.istoreN X165.here hx rfl (hb hby d5_38) rfl (l' := #[.val (.ref a1), .val (.int (1 : Int32)), .val (.int c1)]) rfl k) ?_
      refine oS (fun _ k => XS.iloadN X165.here hx rfl (hb hby d5_39) rfl k) ?_
      refine oS (fun _ k => XS.bipush X165.here hx rfl (hb hby d5_40) k) ?_
      show own_go _ _ _ _ _ _ _ (T165.setTop (mkF m 42 #[.val (.ref a1), .val (.int (1 : Int32)), .val (.int c1)] [(.int (32 : Int32)), (.int c1)]))
      by_cases hc166 : c1 < (32 : Int32)
      · skip
        refine oS (fun _ k => XS.icmpYes X165.here hx rfl (pc0 := 42) (pc' := 51) rfl (hb hby d5_42) rfl (XT.ii_lt_t hc166) (by decide) (by decide) k) ?_
        refine oS (fun _ k => XS.aconstNull X165.here hx rfl (hb hby d5_51) k) ?_
        show own_go _ _ _ _ _ _ _ (T165.setTop (mkF m 52 #[.val (.ref a1), .val (.int (1 : Int32)), .val (.int c1)] [.null]))
        exact own_retA X165 hx hlk hret rfl rfl (hb hby d5_52) (by decide) (by decide) ⟨_, rfl, N165, eq165, fun q => absurd hc166 q.2.1, fun _ => rfl⟩
      · skip
        refine oS (fun _ k => XS.icmpNo X165.here hx rfl (hb hby d5_42) rfl (XT.ii_lt_f hc166) k) ?_
        refine oS (fun _ k => XS.iloadN X165.here hx rfl (hb hby d5_45) rfl k) ?_
        refine oS (fun _ k => XS.bipush X165.here hx rfl (hb hby d5_46) k) ?_
        show own_go _ _ _ _ _ _ _ (T165.setTop (mkF m 48 #[.val (.ref a1), .val (.int (1 : Int32)), .val (.int c1)] [(.int (126 : Int32)), (.int c1)]))
        by_cases hc167 : (126 : Int32) < c1
        · skip
          refine oS (fun _ k => XS.icmpNo X165.here hx rfl (hb hby d5_48) rfl (XT.ii_le_f hc167) k) ?_
          refine oS (fun _ k => XS.aconstNull X165.here hx rfl (hb hby d5_51) k) ?_
          show own_go _ _ _ _ _ _ _ (T165.setTop (mkF m 52 #[.val (.ref a1), .val (.int (1 : Int32)), .val (.int c1)] [.null]))
          exact own_retA X165 hx hlk hret rfl rfl (hb hby d5_52) (by decide) (by decide) ⟨_, rfl, N165, eq165, fun q => absurd hc167 q.2.2, fun _ => rfl⟩
        · skip
          refine oS (fun _ k => XS.icmpYes X165.here hx rfl (pc0 := 48) (pc' := 53) rfl (hb hby d5_48) rfl (XT.ii_le_t hc167) (by decide) (by decide) k) ?_
          refine oS (fun _ k => XS.iinc X165.here hx rfl (hb hby d5_53) rfl (l' := #[.val (.ref a1), .val (.int (2 : Int32)), .val (.int c1)]) rfl k) ?_
          refine oS (fun _ k => XS.goto X165.here hx rfl (pc0 := 56) (pc' := 25) rfl (hb hby d5_56) (by decide) (by decide) k) ?_
          refine oS (fun _ k => XS.iloadN X165.here hx rfl (hb hby d5_25) rfl k) ?_
          refine oS (fun _ k => XS.aloadN X165.here hx rfl (hb hby d5_26) rfl rfl k) ?_
          show own_go _ _ _ _ _ _ _ (T165.setTop (mkF m 27 #[.val (.ref a1), .val (.int (2 : Int32)), .val (.int c1)] [(.ref a1), (.int (2 : Int32))]))
          obtain ⟨v168, T168, L168, X168, hQ168, st168⟩ := own_callV X165 hx hZ (argsL := []) (rest := [(.int (2 : Int32))]) (rm_len_W_2 l Z a0 hw a1 t k _ zC vS h0 n0 O0 hS E_a1 F1 F2 V1) hown (ow hw 49 rfl) (ow hw 50 rfl) (notFace_of_selects (args := #[]) (mvT hZ (ow hw 52 rfl))) (ow hw 52 rfl) (ow hw 51 rfl) (ow hw 6 rfl) (ow hw 53 rfl) (by decide) eq165 E_a1 (g := (mkF m 27 #[.val (.ref a1), .val (.int (2 : Int32)), .val (.int c1)] [(.ref a1), (.int (2 : Int32))])) rfl (by rw [hml]; rfl) (lenOf own_pd__28_29I rfl) rfl (W := 1) (by show 2 * 0 + _ ≤ _; exact Nat.le_of_eq rfl) (hb hby d5_27) (by decide) (by decide) (by decide) (by decide)
          obtain ⟨rfl, Nq168, eq168⟩ := hQ168
          have N168 := Fr.app N165 Nq168
          refine oS st168 ?_
          show own_go _ _ _ _ _ _ _ (T168.setTop (mkF m 30 #[.val (.ref a1), .val (.int (2 : Int32)), .val (.int c1)] [(.int (2 : Int32)), (.int (2 : Int32))]))
          refine oS (fun _ k => XS.icmpYes X168.here hx rfl (pc0 := 30) (pc' := 59) rfl (hb hby d5_30) rfl (by decide) (by decide) (by decide) k) ?_
          refine oS (fun _ k => XS.aloadN X168.here hx rfl (hb hby d5_59) rfl rfl k) ?_
          show own_go _ _ _ _ _ _ _ (T168.setTop (mkF m 60 #[.val (.ref a1), .val (.int (2 : Int32)), .val (.int c1)] [(.ref a1)]))
          exact own_retA X168 hx hlk hret rfl rfl (hb hby d5_60) (by decide) (by decide) ⟨_, rfl, N168, eq168, fun _ => rfl, fun q => absurd (⟨⟨hc162, hc163⟩, ⟨hc166, hc167⟩⟩ : own_ok c0 ∧ own_ok c1) q⟩
theorem own_ef_rm_kpW_3 (m : MethodId) (a1 : Addr) : entryFrame m #[(.ref a1)] 3 = mkF m 0 #[.val (.ref a1), .unset, .unset] [] := by first | (simp [entryFrame, mkF, argsToLocals, Value.category]; done) | rfl
set_option maxRecDepth 65536 in
set_option maxHeartbeats 40000000 in
theorem rm_kpW_3 (l : Launch) (Z : State) (a0 : Array Value) (hw : ∀ d ∈ tables_1, d.before a0 Z = true) (a1 t : Addr) (k : ClassId) (c0 c1 c2 : Int32) (zC : Int32) (vS : Value) (h0 : Heap) (n0 : Nat) (O0 : Old Z n0 h0) (hS : own_S Z zC vS) (E_a1 : Exa Z h0 a1 "java/lang/String") (F1 : Fld Z h0 a1 "java/lang/String" "value" "[B" (.ref t)) (F2 : Fld Z h0 a1 "java/lang/String" "coder" "B" (.int (1 : Int32))) (V1 : Arv Z h0 t k .byte (6 : Int32) [(.int (c0.toInt8.toInt32)), (.int ((c0 >>> ((8 : Int32) &&& 31)).toInt8.toInt32)), (.int (c1.toInt8.toInt32)), (.int ((c1 >>> ((8 : Int32) &&& 31)).toInt8.toInt32)), (.int (c2.toInt8.toInt32)), (.int ((c2 >>> ((8 : Int32) &&& 31)).toInt8.toInt32))] (.int (0 : Int32))) (hc0 : own_ch c0) (hc1 : own_ch c1) (hc2 : own_ch c2) :
    own_Met l Z (⟨"com/example/lynceus/lynceus/probe/HeaderValue", "keepable", "(Ljava/lang/String;)Ljava/lang/String;"⟩ : MethodName) prog_50_method_2_code 3 (some (.object "java/lang/String")) [] ({ frames := 5, cells := 0, slots := 0, locals := 84 } : Room) #[(.ref a1)] h0 (fun v h L => ∃ w, v = some w ∧ Fr n0 L ∧ h = h0 ∧ ((own_ok c0 ∧ own_ok c1 ∧ own_ok c2) → w = .ref a1) ∧ (¬ (own_ok c0 ∧ own_ok c1 ∧ own_ok c2) → w = .null)) := by
  refine own_body own_pn_5 ?_
  intro p e s m below meth c s₁ hx hby hml hown hnm hret hlk X0 hZ e0
  replace hown : s.vm.findClass "com/example/lynceus/lynceus/probe/HeaderValue" = some m.cls := hown
  have N0 := Fr.nil n0
  have K0 := Keep.refl h0 []
  refine oS (fun _ k => castTop (own_ef_rm_kpW_3 m a1) k) ?_
  show own_go _ _ _ _ _ _ _ (s₁.setTop (mkF m 0 #[.val (.ref a1), .unset, .unset] []))
  refine oS (fun _ k => XS.aloadN X0.here hx rfl (hb hby d5_0) rfl rfl k) ?_
  show own_go _ _ _ _ _ _ _ (s₁.setTop (mkF m 1 #[.val (.ref a1), .unset, .unset] [(.ref a1)]))
  refine oS (fun _ k => XS.ifnullNo X0.here hx rfl (hb hby d5_1) rfl k) ?_
  refine oS (fun _ k => XS.aloadN X0.here hx rfl (hb hby d5_4) rfl rfl k) ?_
  show own_go _ _ _ _ _ _ _ (s₁.setTop (mkF m 5 #[.val (.ref a1), .unset, .unset] [(.ref a1)]))
  obtain ⟨v169, T169, L169, X169, hQ169, st169⟩ := own_callV X0 hx hZ (argsL := []) (rest := []) (rm_emp_6 l Z a0 hw a1 t k _ h0 n0 O0 F1 V1) hown (ow hw 30 rfl) (ow hw 31 rfl) (notFace_of_selects (args := #[]) (mvT hZ (ow hw 33 rfl))) (ow hw 33 rfl) (ow hw 32 rfl) (ow hw 6 rfl) (ow hw 34 rfl) (by decide) e0 E_a1 (g := (mkF m 5 #[.val (.ref a1), .unset, .unset] [(.ref a1)])) rfl (by rw [hml]; rfl) (lenOf own_pd__28_29Z rfl) rfl (W := 0) (by show 2 * 0 + _ ≤ _; exact Nat.le_of_eq rfl) (hb hby d5_5) (by decide) (by decide) (by decide) (by decide)
  obtain ⟨rfl, Nq169, eq169⟩ := hQ169
  have N169 := Fr.app N0 Nq169
  refine oS st169 ?_
  show own_go _ _ _ _ _ _ _ (T169.setTop (mkF m 8 #[.val (.ref a1), .unset, .unset] [(.int (0 : Int32))]))
  refine oS (fun _ k => XS.ifNo X169.here hx rfl (hb hby d5_8) rfl (by decide) k) ?_
  refine oS (fun _ k => XS.aloadN X169.here hx rfl (hb hby d5_11) rfl rfl k) ?_
  show own_go _ _ _ _ _ _ _ (T169.setTop (mkF m 12 #[.val (.ref a1), .unset, .unset] [(.ref a1)]))
  obtain ⟨v170, T170, L170, X170, hQ170, st170⟩ := own_callV X169 hx hZ (argsL := []) (rest := []) (rm_len_W_3 l Z a0 hw a1 t k _ zC vS h0 n0 O0 hS E_a1 F1 F2 V1) hown (ow hw 49 rfl) (ow hw 50 rfl) (notFace_of_selects (args := #[]) (mvT hZ (ow hw 52 rfl))) (ow hw 52 rfl) (ow hw 51 rfl) (ow hw 6 rfl) (ow hw 53 rfl) (by decide) eq169 E_a1 (g := (mkF m 12 #[.val (.ref a1), .unset, .unset] [(.ref a1)])) rfl (by rw [hml]; rfl) (lenOf own_pd__28_29I rfl) rfl (W := 0) (by show 2 * 0 + _ ≤ _; exact Nat.le_of_eq rfl) (hb hby d5_12) (by decide) (by decide) (by decide) (by decide)
  obtain ⟨rfl, Nq170, eq170⟩ := hQ170
  have N170 := Fr.app N169 Nq170
  refine oS st170 ?_
  show own_go _ _ _ _ _ _ _ (T170.setTop (mkF m 15 #[.val (.ref a1), .unset, .unset] [(.int (3 : Int32))]))
  refine oS (fun _ k => XS.sipush X170.here hx rfl (hb hby d5_15) k) ?_
  show own_go _ _ _ _ _ _ _ (T170.setTop (mkF m 18 #[.val (.ref a1), .unset, .unset] [(.int (1024 : Int32)), (.int (3 : Int32))]))
  refine oS (fun _ k => XS.icmpYes X170.here hx rfl (pc0 := 18) (pc' := 23) rfl (hb hby d5_18) rfl (by decide) (by decide) (by decide) k) ?_
  refine oS (fun _ k => XS.iconst X170.here hx rfl (hb hby d5_23) k) ?_
  refine oS (fun _ k => XS.istoreN X170.here hx rfl (hb hby d5_24) rfl (l' := #[.val (.ref a1), .val (.int (0 : Int32)), .unset]) rfl k) ?_
  refine oS (fun _ k => XS.iloadN X170.here hx rfl (hb hby d5_25) rfl k) ?_
  refine oS (fun _ k => XS.aloadN X170.here hx rfl (hb hby d5_26) rfl rfl k) ?_
  show own_go _ _ _ _ _ _ _ (T170.setTop (mkF m 27 #[.val (.ref a1), .val (.int (0 : Int32)), .unset] [(.ref a1), (.int (0 : Int32))]))
  obtain ⟨v171, T171, L171, X171, hQ171, st171⟩ := own_callV X170 hx hZ (argsL := []) (rest := [(.int (0 : Int32))]) (rm_len_W_3 l Z a0 hw a1 t k _ zC vS h0 n0 O0 hS E_a1 F1 F2 V1) hown (ow hw 49 rfl) (ow hw 50 rfl) (notFace_of_selects (args := #[]) (mvT hZ (ow hw 52 rfl))) (ow hw 52 rfl) (ow hw 51 rfl) (ow hw 6 rfl) (ow hw 53 rfl) (by decide) eq170 E_a1 (g := (mkF m 27 #[.val (.ref a1), .val (.int (0 : Int32)), .unset] [(.ref a1), (.int (0 : Int32))])) rfl (by rw [hml]; rfl) (lenOf own_pd__28_29I rfl) rfl (W := 1) (by show 2 * 0 + _ ≤ _; exact Nat.le_of_eq rfl) (hb hby d5_27) (by decide) (by decide) (by decide) (by decide)
  obtain ⟨rfl, Nq171, eq171⟩ := hQ171
  have N171 := Fr.app N170 Nq171
  refine oS st171 ?_
  show own_go _ _ _ _ _ _ _ (T171.setTop (mkF m 30 #[.val (.ref a1), .val (.int (0 : Int32)), .unset] [(.int (3 : Int32)), (.int (0 : Int32))]))
  refine oS (fun _ k => XS.icmpNo X171.here hx rfl (hb hby d5_30) rfl (by decide) k) ?_
  refine oS (fun _ k => XS.aloadN X171.here hx rfl (hb hby d5_33) rfl rfl k) ?_
  refine oS (fun _ k => XS.iloadN X171.here hx rfl (hb hby d5_34) rfl k) ?_
  show own_go _ _ _ _ _ _ _ (T171.setTop (mkF m 35 #[.val (.ref a1), .val (.int (0 : Int32)), .unset] [(.int (0 : Int32)), (.ref a1)]))
  obtain ⟨v172, T172, L172, X172, hQ172, st172⟩ := own_callV X171 hx hZ (argsL := [(.int (0 : Int32))]) (rest := []) (rm_chW_3_0 l Z a0 hw a1 t k c0 c1 c2 zC vS h0 n0 O0 hS E_a1 F1 F2 V1 hc0) hown (ow hw 59 rfl) (ow hw 60 rfl) (notFace_of_selects (args := #[]) (mvT hZ (ow hw 62 rfl))) (ow hw 62 rfl) (ow hw 61 rfl) (ow hw 6 rfl) (ow hw 63 rfl) (by decide) eq171 E_a1 (g := (mkF m 35 #[.val (.ref a1), .val (.int (0 : Int32)), .unset] [(.int (0 : Int32)), (.ref a1)])) rfl (by rw [hml]; rfl) (lenOf own_pd__28I_29C rfl) rfl (W := 0) (by show 2 * 0 + _ ≤ _; exact Nat.le_of_eq rfl) (hb hby d5_35) (by decide) (by decide) (by decide) (by decide)
  obtain ⟨rfl, Nq172, eq172⟩ := hQ172
  have N172 := Fr.app N171 Nq172
  refine oS st172 ?_
  show own_go _ _ _ _ _ _ _ (T172.setTop (mkF m 38 #[.val (.ref a1), .val (.int (0 : Int32)), .unset] [(.int c0)]))
  refine oS (fun _ k => XS.istoreN X172.here hx rfl (hb hby d5_38) rfl (l' := #[.val (.ref a1), .val (.int (0 : Int32)), .val (.int c0)]) rfl k) ?_
  refine oS (fun _ k => XS.iloadN X172.here hx rfl (hb hby d5_39) rfl k) ?_
  refine oS (fun _ k => XS.bipush X172.here hx rfl (hb hby d5_40) k) ?_
  show own_go _ _ _ _ _ _ _ (T172.setTop (mkF m 42 #[.val (.ref a1), .val (.int (0 : Int32)), .val (.int c0)] [(.int (32 : Int32)), (.int c0)]))
  by_cases hc173 : c0 < (32 : Int32)
  · skip
    refine oS (fun _ k => XS.icmpYes X172.here hx rfl (pc0 := 42) (pc' := 51) rfl (hb hby d5_42) rfl (XT.ii_lt_t hc173) (by decide) (by decide) k) ?_
    refine oS (fun _ k => XS.aconstNull X172.here hx rfl (hb hby d5_51) k) ?_
    show own_go _ _ _ _ _ _ _ (T172.setTop (mkF m 52 #[.val (.ref a1), .val (.int (0 : Int32)), .val (.int c0)] [.null]))
    exact own_retA X172 hx hlk hret rfl rfl (hb hby d5_52) (by decide) (by decide) ⟨_, rfl, N172, eq172, fun q => absurd hc173 q.1.1, fun _ => rfl⟩
  · skip
    refine oS (fun _ k => XS.icmpNo X172.here hx rfl (hb hby d5_42) rfl (XT.ii_lt_f hc173) k) ?_
    refine oS (fun _ k => XS.iloadN X172.here hx rfl (hb hby d5_45) rfl k) ?_
    refine oS (fun _ k => XS.bipush X172.here hx rfl (hb hby d5_46) k) ?_
    show own_go _ _ _ _ _ _ _ (T172.setTop (mkF m 48 #[.val (.ref a1), .val (.int (0 : Int32)), .val (.int c0)] [(.int (126 : Int32)), (.int c0)]))
    by_cases hc174 : (126 : Int32) < c0
    · skip
      refine oS (fun _ k => XS.icmpNo X172.here hx rfl (hb hby d5_48) rfl (XT.ii_le_f hc174) k) ?_
      refine oS (fun _ k => XS.aconstNull X172.here hx rfl (hb hby d5_51) k) ?_
      show own_go _ _ _ _ _ _ _ (T172.setTop (mkF m 52 #[.val (.ref a1), .val (.int (0 : Int32)), .val (.int c0)] [.null]))
      exact own_retA X172 hx hlk hret rfl rfl (hb hby d5_52) (by decide) (by decide) ⟨_, rfl, N172, eq172, fun q => absurd hc174 q.1.2, fun _ => rfl⟩
    · skip
      refine oS (fun _ k => XS.icmpYes X172.here hx rfl (pc0 := 48) (pc' := 53) rfl (hb hby d5_48) rfl (XT.ii_le_t hc174) (by decide) (by decide) k) ?_
      refine oS (fun _ k => XS.iinc X172.here hx rfl (hb hby d5_53) rfl (l' := #[.val (.ref a1), .val (.int (1 : Int32)), .val (.int c0)]) rfl k) ?_
      refine oS (fun _ k => XS.goto X172.here hx rfl (pc0 := 56) (pc' := 25) rfl (hb hby d5_56) (by decide) (by decide) k) ?_
      refine oS (fun _ k => XS.iloadN X172.here hx rfl (hb hby d5_25) rfl k) ?_
      refine oS (fun _ k => XS.aloadN X172.here hx rfl (hb hby d5_26) rfl rfl k) ?_
      show own_go _ _ _ _ _ _ _ (T172.setTop (mkF m 27 #[.val (.ref a1), .val (.int (1 : Int32)), .val (.int c0)] [(.ref a1), (.int (1 : Int32))]))
      obtain ⟨v175, T175, L175, X175, hQ175, st175⟩ := own_callV X172 hx hZ (argsL := []) (rest := [(.int (1 : Int32))]) (rm_len_W_3 l Z a0 hw a1 t k _ zC vS h0 n0 O0 hS E_a1 F1 F2 V1) hown (ow hw 49 rfl) (ow hw 50 rfl) (notFace_of_selects (args := #[]) (mvT hZ (ow hw 52 rfl))) (ow hw 52 rfl) (ow hw 51 rfl) (ow hw 6 rfl) (ow hw 53 rfl) (by decide) eq172 E_a1 (g := (mkF m 27 #[.val (.ref a1), .val (.int (1 : Int32)), .val (.int c0)] [(.ref a1), (.int (1 : Int32))])) rfl (by rw [hml]; rfl) (lenOf own_pd__28_29I rfl) rfl (W := 1) (by show 2 * 0 + _ ≤ _; exact Nat.le_of_eq rfl) (hb hby d5_27) (by decide) (by decide) (by decide) (by decide)
      obtain ⟨rfl, Nq175, eq175⟩ := hQ175
      have N175 := Fr.app N172 Nq175
      refine oS st175 ?_
      show own_go _ _ _ _ _ _ _ (T175.setTop (mkF m 30 #[.val (.ref a1), .val (.int (1 : Int32)), .val (.int c0)] [(.int (3 : Int32)), (.int (1 : Int32))]))
      refine oS (fun _ k => XS.icmpNo X175.here hx rfl (hb hby d5_30) rfl (by decide) k) ?_
      refine oS (fun _ k => XS.aloadN X175.here hx rfl (hb hby d5_33) rfl rfl k) ?_
      refine oS (fun _ k => XS.iloadN X175.here hx rfl (hb hby d5_34) rfl k) ?_
      show own_go _ _ _ _ _ _ _ (T175.setTop (mkF m 35 #[.val (.ref a1), .val (.int (1 : Int32)), .val (.int c0)] [(.int (1 : Int32)), (.ref a1)]))
      obtain ⟨v176, T176, L176, X176, hQ176, st176⟩ := own_callV X175 hx hZ (argsL := [(.int (1 : Int32))]) (rest := []) (rm_chW_3_1 l Z a0 hw a1 t k c0 c1 c2 zC vS h0 n0 O0 hS E_a1 F1 F2 V1 hc1) hown (ow hw 59 rfl) (ow hw 60 rfl) (notFace_of_selects (args := #[]) (mvT hZ (ow hw 62 rfl))) (ow hw 62 rfl) (ow hw 61 rfl) (ow hw 6 rfl) (ow hw 63 rfl) (by decide) eq175 E_a1 (g := (mkF m 35 #[.val (.ref a1), .val (.int (1 : Int32)), .val (.int c0)] [(.int (1 : Int32)), (.ref a1)])) rfl (by rw [hml]; rfl) (lenOf own_pd__28I_29C rfl) rfl (W := 0) (by show 2 * 0 + _ ≤ _; exact Nat.le_of_eq rfl) (hb hby d5_35) (by decide) (by decide) (by decide) (by decide)
      obtain ⟨rfl, Nq176, eq176⟩ := hQ176
      have N176 := Fr.app N175 Nq176
      refine oS st176 ?_
      show own_go _ _ _ _ _ _ _ (T176.setTop (mkF m 38 #[.val (.ref a1), .val (.int (1 : Int32)), .val (.int c0)] [(.int c1)]))
      refine oS (fun _ k => XS.istoreN X176.here hx rfl (hb hby d5_38) rfl (l' := #[.val (.ref a1), .val (.int (1 : Int32)), .val (.int c1)]) rfl k) ?_
      refine oS (fun _ k => XS.iloadN X176.here hx rfl (hb hby d5_39) rfl k) ?_
      refine oS (fun _ k => XS.bipush X176.here hx rfl (hb hby d5_40) k) ?_
      show own_go _ _ _ _ _ _ _ (T176.setTop (mkF m 42 #[.val (.ref a1), .val (.int (1 : Int32)), .val (.int c1)] [(.int (32 : Int32)), (.int c1)]))
      by_cases hc177 : c1 < (32 : Int32)
      · skip
        refine oS (fun _ k => XS.icmpYes X176.here hx rfl (pc0 := 42) (pc' := 51) rfl (hb hby d5_42) rfl (XT.ii_lt_t hc177) (by decide) (by decide) k) ?_
        refine oS (fun _ k => XS.aconstNull X176.here hx rfl (hb hby d5_51) k) ?_
        show own_go _ _ _ _ _ _ _ (T176.setTop (mkF m 52 #[.val (.ref a1), .val (.int (1 : Int32)), .val (.int c1)] [.null]))
        exact own_retA X176 hx hlk hret rfl rfl (hb hby d5_52) (by decide) (by decide) ⟨_, rfl, N176, eq176, fun q => absurd hc177 q.2.1.1, fun _ => rfl⟩
      · skip
        refine oS (fun _ k => XS.icmpNo X176.here hx rfl (hb hby d5_42) rfl (XT.ii_lt_f hc177) k) ?_
        refine oS (fun _ k => XS.iloadN X176.here hx rfl (hb hby d5_45) rfl k) ?_
        refine oS (fun _ k => XS.bipush X176.here hx rfl (hb hby d5_46) k) ?_
        show own_go _ _ _ _ _ _ _ (T176.setTop (mkF m 48 #[.val (.ref a1), .val (.int (1 : Int32)), .val (.int c1)] [(.int (126 : Int32)), (.int c1)]))
        by_cases hc178 : (126 : Int32) < c1
        · skip
          refine oS (fun _ k => XS.icmpNo X176.here hx rfl (hb hby d5_48) rfl (XT.ii_le_f hc178) k) ?_
          refine oS (fun _ k => XS.aconstNull X176.here hx rfl (hb hby d5_51) k) ?_
          show own_go _ _ _ _ _ _ _ (T176.setTop (mkF m 52 #[.val (.ref a1), .val (.int (1 : Int32)), .val (.int c1)] [.null]))
          exact own_retA X176 hx hlk hret rfl rfl (hb hby d5_52) (by decide) (by decide) ⟨_, rfl, N176, eq176, fun q => absurd hc178 q.2.1.2, fun _ => rfl⟩
        · skip
          refine oS (fun _ k => XS.icmpYes X176.here hx rfl (pc0 := 48) (pc' := 53) rfl (hb hby d5_48) rfl (XT.ii_le_t hc178) (by decide) (by decide) k) ?_
          refine oS (fun _ k => XS.iinc X176.here hx rfl (hb hby d5_53) rfl (l' := #[.val (.ref a1), .val (.int (2 : Int32)), .val (.int c1)]) rfl k) ?_
          refine oS (fun _ k => XS.goto X176.here hx rfl (pc0 := 56) (pc' := 25) rfl (hb hby d5_56) (by decide) (by decide) k) ?_
          refine oS (fun _ k => XS.iloadN X176.here hx rfl (hb hby d5_25) rfl k) ?_
          refine oS (fun _ k => XS.aloadN X176.here hx rfl (hb hby d5_26) rfl rfl k) ?_
          show own_go _ _ _ _ _ _ _ (T176.setTop (mkF m 27 #[.val (.ref a1), .val (.int (2 : Int32)), .val (.int c1)] [(.ref a1), (.int (2 : Int32))]))
          obtain ⟨v179, T179, L179, X179, hQ179, st179⟩ := own_callV X176 hx hZ (argsL := []) (rest := [(.int (2 : Int32))]) (rm_len_W_3 l Z a0 hw a1 t k _ zC vS h0 n0 O0 hS E_a1 F1 F2 V1) hown (ow hw 49 rfl) (ow hw 50 rfl) (notFace_of_selects (args := #[]) (mvT hZ (ow hw 52 rfl))) (ow hw 52 rfl) (ow hw 51 rfl) (ow hw 6 rfl) (ow hw 53 rfl) (by decide) eq176 E_a1 (g := (mkF m 27 #[.val (.ref a1), .val (.int (2 : Int32)), .val (.int c1)] [(.ref a1), (.int (2 : Int32))])) rfl (by rw [hml]; rfl) (lenOf own_pd__28_29I rfl) rfl (W := 1) (by show 2 * 0 + _ ≤ _; exact Nat.le_of_eq rfl) (hb hby d5_27) (by decide) (by decide) (by decide) (by decide)
          obtain ⟨rfl, Nq179, eq179⟩ := hQ179
          have N179 := Fr.app N176 Nq179
          refine oS st179 ?_
          show own_go _ _ _ _ _ _ _ (T179.setTop (mkF m 30 #[.val (.ref a1), .val (.int (2 : Int32)), .val (.int c1)] [(.int (3 : Int32)), (.int (2 : Int32))]))
          refine oS (fun _ k => XS.icmpNo X179.here hx rfl (hb hby d5_30) rfl (by decide) k) ?_
          refine oS (fun _ k => XS.aloadN X179.here hx rfl (hb hby d5_33) rfl rfl k) ?_
          refine oS (fun _ k => XS.iloadN X179.here hx rfl (hb hby d5_34) rfl k) ?_
          show own_go _ _ _ _ _ _ _ (T179.setTop (mkF m 35 #[.val (.ref a1), .val (.int (2 : Int32)), .val (.int c1)] [(.int (2 : Int32)), (.ref a1)]))
          obtain ⟨v180, T180, L180, X180, hQ180, st180⟩ := own_callV X179 hx hZ (argsL := [(.int (2 : Int32))]) (rest := []) (rm_chW_3_2 l Z a0 hw a1 t k c0 c1 c2 zC vS h0 n0 O0 hS E_a1 F1 F2 V1 hc2) hown (ow hw 59 rfl) (ow hw 60 rfl) (notFace_of_selects (args := #[]) (mvT hZ (ow hw 62 rfl))) (ow hw 62 rfl) (ow hw 61 rfl) (ow hw 6 rfl) (ow hw 63 rfl) (by decide) eq179 E_a1 (g := (mkF m 35 #[.val (.ref a1), .val (.int (2 : Int32)), .val (.int c1)] [(.int (2 : Int32)), (.ref a1)])) rfl (by rw [hml]; rfl) (lenOf own_pd__28I_29C rfl) rfl (W := 0) (by show 2 * 0 + _ ≤ _; exact Nat.le_of_eq rfl) (hb hby d5_35) (by decide) (by decide) (by decide) (by decide)
          obtain ⟨rfl, Nq180, eq180⟩ := hQ180
          have N180 := Fr.app N179 Nq180
          refine oS st180 ?_
          show own_go _ _ _ _ _ _ _ (T180.setTop (mkF m 38 #[.val (.ref a1), .val (.int (2 : Int32)), .val (.int c1)] [(.int c2)]))
          refine oS (fun _ k => XS.istoreN X180.here hx rfl (hb hby d5_38) rfl (l' := #[.val (.ref a1), .val (.int (2 : Int32)), .val (.int c2)]) rfl k) ?_
          refine oS (fun _ k => XS.iloadN X180.here hx rfl (hb hby d5_39) rfl k) ?_
          refine oS (fun _ k => XS.bipush X180.here hx rfl (hb hby d5_40) k) ?_
          show own_go _ _ _ _ _ _ _ (T180.setTop (mkF m 42 #[.val (.ref a1), .val (.int (2 : Int32)), .val (.int c2)] [(.int (32 : Int32)), (.int c2)]))
          by_cases hc181 : c2 < (32 : Int32)
          · skip
            refine oS (fun _ k => XS.icmpYes X180.here hx rfl (pc0 := 42) (pc' := 51) rfl (hb hby d5_42) rfl (XT.ii_lt_t hc181) (by decide) (by decide) k) ?_
            refine oS (fun _ k => XS.aconstNull X180.here hx rfl (hb hby d5_51) k) ?_
            show own_go _ _ _ _ _ _ _ (T180.setTop (mkF m 52 #[.val (.ref a1), .val (.int (2 : Int32)), .val (.int c2)] [.null]))
            exact own_retA X180 hx hlk hret rfl rfl (hb hby d5_52) (by decide) (by decide) ⟨_, rfl, N180, eq180, fun q => absurd hc181 q.2.2.1, fun _ => rfl⟩
          · skip
            refine oS (fun _ k => XS.icmpNo X180.here hx rfl (hb hby d5_42) rfl (XT.ii_lt_f hc181) k) ?_
            refine oS (fun _ k => XS.iloadN X180.here hx rfl (hb hby d5_45) rfl k) ?_
            refine oS (fun _ k => XS.bipush X180.here hx rfl (hb hby d5_46) k) ?_
            show own_go _ _ _ _ _ _ _ (T180.setTop (mkF m 48 #[.val (.ref a1), .val (.int (2 : Int32)), .val (.int c2)] [(.int (126 : Int32)), (.int c2)]))
            by_cases hc182 : (126 : Int32) < c2
            · skip
              refine oS (fun _ k => XS.icmpNo X180.here hx rfl (hb hby d5_48) rfl (XT.ii_le_f hc182) k) ?_
              refine oS (fun _ k => XS.aconstNull X180.here hx rfl (hb hby d5_51) k) ?_
              show own_go _ _ _ _ _ _ _ (T180.setTop (mkF m 52 #[.val (.ref a1), .val (.int (2 : Int32)), .val (.int c2)] [.null]))
              exact own_retA X180 hx hlk hret rfl rfl (hb hby d5_52) (by decide) (by decide) ⟨_, rfl, N180, eq180, fun q => absurd hc182 q.2.2.2, fun _ => rfl⟩
            · skip
              refine oS (fun _ k => XS.icmpYes X180.here hx rfl (pc0 := 48) (pc' := 53) rfl (hb hby d5_48) rfl (XT.ii_le_t hc182) (by decide) (by decide) k) ?_
              refine oS (fun _ k => XS.iinc X180.here hx rfl (hb hby d5_53) rfl (l' := #[.val (.ref a1), .val (.int (3 : Int32)), .val (.int c2)]) rfl k) ?_
              refine oS (fun _ k => XS.goto X180.here hx rfl (pc0 := 56) (pc' := 25) rfl (hb hby d5_56) (by decide) (by decide) k) ?_
              refine oS (fun _ k => XS.iloadN X180.here hx rfl (hb hby d5_25) rfl k) ?_
              refine oS (fun _ k => XS.aloadN X180.here hx rfl (hb hby d5_26) rfl rfl k) ?_
              show own_go _ _ _ _ _ _ _ (T180.setTop (mkF m 27 #[.val (.ref a1), .val (.int (3 : Int32)), .val (.int c2)] [(.ref a1), (.int (3 : Int32))]))
              obtain ⟨v183, T183, L183, X183, hQ183, st183⟩ := own_callV X180 hx hZ (argsL := []) (rest := [(.int (3 : Int32))]) (rm_len_W_3 l Z a0 hw a1 t k _ zC vS h0 n0 O0 hS E_a1 F1 F2 V1) hown (ow hw 49 rfl) (ow hw 50 rfl) (notFace_of_selects (args := #[]) (mvT hZ (ow hw 52 rfl))) (ow hw 52 rfl) (ow hw 51 rfl) (ow hw 6 rfl) (ow hw 53 rfl) (by decide) eq180 E_a1 (g := (mkF m 27 #[.val (.ref a1), .val (.int (3 : Int32)), .val (.int c2)] [(.ref a1), (.int (3 : Int32))])) rfl (by rw [hml]; rfl) (lenOf own_pd__28_29I rfl) rfl (W := 1) (by show 2 * 0 + _ ≤ _; exact Nat.le_of_eq rfl) (hb hby d5_27) (by decide) (by decide) (by decide) (by decide)
              obtain ⟨rfl, Nq183, eq183⟩ := hQ183
              have N183 := Fr.app N180 Nq183
              refine oS st183 ?_
              show own_go _ _ _ _ _ _ _ (T183.setTop (mkF m 30 #[.val (.ref a1), .val (.int (3 : Int32)), .val (.int c2)] [(.int (3 : Int32)), (.int (3 : Int32))]))
              refine oS (fun _ k => XS.icmpYes X183.here hx rfl (pc0 := 30) (pc' := 59) rfl (hb hby d5_30) rfl (by decide) (by decide) (by decide) k) ?_
              refine oS (fun _ k => XS.aloadN X183.here hx rfl (hb hby d5_59) rfl rfl k) ?_
              show own_go _ _ _ _ _ _ _ (T183.setTop (mkF m 60 #[.val (.ref a1), .val (.int (3 : Int32)), .val (.int c2)] [(.ref a1)]))
              exact own_retA X183 hx hlk hret rfl rfl (hb hby d5_60) (by decide) (by decide) ⟨_, rfl, N183, eq183, fun _ => rfl, fun q => absurd (⟨⟨hc173, hc174⟩, ⟨hc177, hc178⟩, ⟨hc181, hc182⟩⟩ : own_ok c0 ∧ own_ok c1 ∧ own_ok c2) q⟩
theorem rm_kp_1 (l : Launch) (Z : State) (a0 : Array Value) (hw : ∀ d ∈ tables_1, d.before a0 Z = true) (a1 t : Addr) (k : ClassId) (c0 : Int32) (zC : Int32) (vS : Value) (h0 : Heap) (n0 : Nat) (O0 : Old Z n0 h0) (hS : own_S Z zC vS) (E_a1 : Exa Z h0 a1 "java/lang/String") (F1 : Fld Z h0 a1 "java/lang/String" "value" "[B" (.ref t)) (hc0 : own_ch c0) (D : (Fld Z h0 a1 "java/lang/String" "coder" "B" (.int (0 : Int32)) ∧ Arv Z h0 t k .byte (1 : Int32) [(.int (c0.toInt8.toInt32))] (.int (0 : Int32)) ∧ ¬ (255 : Int32) < c0) ∨ (Fld Z h0 a1 "java/lang/String" "coder" "B" (.int (1 : Int32)) ∧ Arv Z h0 t k .byte (2 : Int32) [(.int (c0.toInt8.toInt32)), (.int ((c0 >>> ((8 : Int32) &&& 31)).toInt8.toInt32))] (.int (0 : Int32)))) :
    own_Met l Z (⟨"com/example/lynceus/lynceus/probe/HeaderValue", "keepable", "(Ljava/lang/String;)Ljava/lang/String;"⟩ : MethodName) prog_50_method_2_code 3 (some (.object "java/lang/String")) [] ({ frames := 5, cells := 0, slots := 0, locals := 84 } : Room) #[(.ref a1)] h0 (fun v h L => ∃ w, v = some w ∧ Fr n0 L ∧ h = h0 ∧ ((own_ok c0) → w = .ref a1) ∧ (¬ (own_ok c0) → w = .null)) := by
  rcases D with ⟨F2, V1, hl0⟩ | ⟨F2, V1⟩
  · exact rm_kpL_1 l Z a0 hw a1 t k c0 zC vS h0 n0 O0 hS E_a1 F1 F2 V1 hc0 hl0
  · exact rm_kpW_1 l Z a0 hw a1 t k c0 zC vS h0 n0 O0 hS E_a1 F1 F2 V1 hc0
theorem rm_kp_2 (l : Launch) (Z : State) (a0 : Array Value) (hw : ∀ d ∈ tables_1, d.before a0 Z = true) (a1 t : Addr) (k : ClassId) (c0 c1 : Int32) (zC : Int32) (vS : Value) (h0 : Heap) (n0 : Nat) (O0 : Old Z n0 h0) (hS : own_S Z zC vS) (E_a1 : Exa Z h0 a1 "java/lang/String") (F1 : Fld Z h0 a1 "java/lang/String" "value" "[B" (.ref t)) (hc0 : own_ch c0) (hc1 : own_ch c1) (D : (Fld Z h0 a1 "java/lang/String" "coder" "B" (.int (0 : Int32)) ∧ Arv Z h0 t k .byte (2 : Int32) [(.int (c0.toInt8.toInt32)), (.int (c1.toInt8.toInt32))] (.int (0 : Int32)) ∧ ¬ (255 : Int32) < c0 ∧ ¬ (255 : Int32) < c1) ∨ (Fld Z h0 a1 "java/lang/String" "coder" "B" (.int (1 : Int32)) ∧ Arv Z h0 t k .byte (4 : Int32) [(.int (c0.toInt8.toInt32)), (.int ((c0 >>> ((8 : Int32) &&& 31)).toInt8.toInt32)), (.int (c1.toInt8.toInt32)), (.int ((c1 >>> ((8 : Int32) &&& 31)).toInt8.toInt32))] (.int (0 : Int32)))) :
    own_Met l Z (⟨"com/example/lynceus/lynceus/probe/HeaderValue", "keepable", "(Ljava/lang/String;)Ljava/lang/String;"⟩ : MethodName) prog_50_method_2_code 3 (some (.object "java/lang/String")) [] ({ frames := 5, cells := 0, slots := 0, locals := 84 } : Room) #[(.ref a1)] h0 (fun v h L => ∃ w, v = some w ∧ Fr n0 L ∧ h = h0 ∧ ((own_ok c0 ∧ own_ok c1) → w = .ref a1) ∧ (¬ (own_ok c0 ∧ own_ok c1) → w = .null)) := by
  rcases D with ⟨F2, V1, hl0, hl1⟩ | ⟨F2, V1⟩
  · exact rm_kpL_2 l Z a0 hw a1 t k c0 c1 zC vS h0 n0 O0 hS E_a1 F1 F2 V1 hc0 hc1 hl0 hl1
  · exact rm_kpW_2 l Z a0 hw a1 t k c0 c1 zC vS h0 n0 O0 hS E_a1 F1 F2 V1 hc0 hc1
theorem rm_kp_3 (l : Launch) (Z : State) (a0 : Array Value) (hw : ∀ d ∈ tables_1, d.before a0 Z = true) (a1 t : Addr) (k : ClassId) (c0 c1 c2 : Int32) (zC : Int32) (vS : Value) (h0 : Heap) (n0 : Nat) (O0 : Old Z n0 h0) (hS : own_S Z zC vS) (E_a1 : Exa Z h0 a1 "java/lang/String") (F1 : Fld Z h0 a1 "java/lang/String" "value" "[B" (.ref t)) (hc0 : own_ch c0) (hc1 : own_ch c1) (hc2 : own_ch c2) (D : (Fld Z h0 a1 "java/lang/String" "coder" "B" (.int (0 : Int32)) ∧ Arv Z h0 t k .byte (3 : Int32) [(.int (c0.toInt8.toInt32)), (.int (c1.toInt8.toInt32)), (.int (c2.toInt8.toInt32))] (.int (0 : Int32)) ∧ ¬ (255 : Int32) < c0 ∧ ¬ (255 : Int32) < c1 ∧ ¬ (255 : Int32) < c2) ∨ (Fld Z h0 a1 "java/lang/String" "coder" "B" (.int (1 : Int32)) ∧ Arv Z h0 t k .byte (6 : Int32) [(.int (c0.toInt8.toInt32)), (.int ((c0 >>> ((8 : Int32) &&& 31)).toInt8.toInt32)), (.int (c1.toInt8.toInt32)), (.int ((c1 >>> ((8 : Int32) &&& 31)).toInt8.toInt32)), (.int (c2.toInt8.toInt32)), (.int ((c2 >>> ((8 : Int32) &&& 31)).toInt8.toInt32))] (.int (0 : Int32)))) :
    own_Met l Z (⟨"com/example/lynceus/lynceus/probe/HeaderValue", "keepable", "(Ljava/lang/String;)Ljava/lang/String;"⟩ : MethodName) prog_50_method_2_code 3 (some (.object "java/lang/String")) [] ({ frames := 5, cells := 0, slots := 0, locals := 84 } : Room) #[(.ref a1)] h0 (fun v h L => ∃ w, v = some w ∧ Fr n0 L ∧ h = h0 ∧ ((own_ok c0 ∧ own_ok c1 ∧ own_ok c2) → w = .ref a1) ∧ (¬ (own_ok c0 ∧ own_ok c1 ∧ own_ok c2) → w = .null)) := by
  rcases D with ⟨F2, V1, hl0, hl1, hl2⟩ | ⟨F2, V1⟩
  · exact rm_kpL_3 l Z a0 hw a1 t k c0 c1 c2 zC vS h0 n0 O0 hS E_a1 F1 F2 V1 hc0 hc1 hc2 hl0 hl1 hl2
  · exact rm_kpW_3 l Z a0 hw a1 t k c0 c1 c2 zC vS h0 n0 O0 hS E_a1 F1 F2 V1 hc0 hc1 hc2
theorem d26_0 : decode jdk_42_method_66_code 0 = .ok (.aload_n 0, 1) := by decide +kernel
theorem d26_1 : decode jdk_42_method_66_code 1 = .ok (.aload_n 1, 1) := by decide +kernel
theorem d26_2 : decode jdk_42_method_66_code 2 = .ok (.if_acmp .ne 5, 3) := by decide +kernel
theorem d26_5 : decode jdk_42_method_66_code 5 = .ok (.iconst 1, 1) := by decide +kernel
theorem d26_6 : decode jdk_42_method_66_code 6 = .ok (.ireturn, 1) := by decide +kernel
theorem own_pn_26 : plainFor (⟨"java/lang/String", "equals", "(Ljava/lang/Object;)Z"⟩ : MethodName) = true := plainFor_of_name (show plainName "java/lang/String" = true by first | (simp [plainName, overriddenIn]; done) | decide +kernel)
theorem own_ef_rm_eq (m : MethodId) (a1 : Addr) (a1 : Addr) : entryFrame m #[(.ref a1), (.ref a1)] 3 = mkF m 0 #[.val (.ref a1), .val (.ref a1), .unset] [] := by first | (simp [entryFrame, mkF, argsToLocals, Value.category]; done) | rfl
set_option maxRecDepth 65536 in
set_option maxHeartbeats 40000000 in
theorem rm_eq (l : Launch) (Z : State) (a0 : Array Value) (hw : ∀ d ∈ tables_1, d.before a0 Z = true) (a1 : Addr) (h0 : Heap) (n0 : Nat) (O0 : Old Z n0 h0)  :
    own_Met l Z (⟨"java/lang/String", "equals", "(Ljava/lang/Object;)Z"⟩ : MethodName) jdk_42_method_66_code 3 (some .boolean) [] ({ frames := 0, cells := 0, slots := 0, locals := 0 } : Room) #[(.ref a1), (.ref a1)] h0 (fun v h L => v = some (.int (1 : Int32)) ∧ Fr n0 L ∧ h = h0) := by
  refine own_body own_pn_26 ?_
  intro p e s m below meth c s₁ hx hby hml hown hnm hret hlk X0 hZ e0
  replace hown : s.vm.findClass "java/lang/String" = some m.cls := hown
  have N0 := Fr.nil n0
  have K0 := Keep.refl h0 []
  refine oS (fun _ k => castTop (own_ef_rm_eq m a1 a1) k) ?_
  show own_go _ _ _ _ _ _ _ (s₁.setTop (mkF m 0 #[.val (.ref a1), .val (.ref a1), .unset] []))
  refine oS (fun _ k => XS.aloadN X0.here hx rfl (hb hby d26_0) rfl rfl k) ?_
  refine oS (fun _ k => XS.aloadN X0.here hx rfl (hb hby d26_1) rfl rfl k) ?_
  show own_go _ _ _ _ _ _ _ (s₁.setTop (mkF m 2 #[.val (.ref a1), .val (.ref a1), .unset] [(.ref a1), (.ref a1)]))
  refine oS (fun _ k => Jvm.RoadKit.acmp (g := (mkF m 2 #[.val (.ref a1), .val (.ref a1), .unset] [(.ref a1), (.ref a1)])) X0 hx rfl rfl rfl (pc0 := 2) (pc' := 5) (same := true) rfl (hb hby d26_2) rfl (decide_eq_true rfl) (by decide) (by decide) k) ?_
  show own_go _ _ _ _ _ _ _ (s₁.setTop (mkF m 5 #[.val (.ref a1), .val (.ref a1), .unset] []))
  refine oS (fun _ k => XS.iconst X0.here hx rfl (hb hby d26_5) k) ?_
  show own_go _ _ _ _ _ _ _ (s₁.setTop (mkF m 6 #[.val (.ref a1), .val (.ref a1), .unset] [(.int (1 : Int32))]))
  exact own_retN X0 hx hlk (t := .boolean) hret (by simp) rfl (hb hby d26_6) (by decide) (by decide) (⟨rfl, N0, e0⟩)
theorem d20_0 : decode jdk_52_method_3_code 0 = .ok (.iload_n 0, 1) := by decide +kernel
theorem d20_1 : decode jdk_52_method_3_code 1 = .ok (.ifCond .ge 11, 3) := by decide +kernel
theorem d20_12 : decode jdk_52_method_3_code 12 = .ok (.iload_n 0, 1) := by decide +kernel
theorem d20_13 : decode jdk_52_method_3_code 13 = .ok (.ldc 20, 2) := by decide +kernel
theorem d20_15 : decode jdk_52_method_3_code 15 = .ok (.if_icmp .lt 40, 3) := by decide +kernel
theorem d20_55 : decode jdk_52_method_3_code 55 = .ok (.iload_n 0, 1) := by decide +kernel
theorem d20_56 : decode jdk_52_method_3_code 56 = .ok (.iconst 1, 1) := by decide +kernel
theorem d20_57 : decode jdk_52_method_3_code 57 = .ok (.ishl, 1) := by decide +kernel
theorem d20_58 : decode jdk_52_method_3_code 58 = .ok (.ireturn, 1) := by decide +kernel
theorem own_pn_20 : plainFor (⟨"java/lang/StringUTF16", "newBytesLength", "(I)I"⟩ : MethodName) = true := plainFor_of_name (show plainName "java/lang/StringUTF16" = true by first | (simp [plainName, overriddenIn]; done) | decide +kernel)
theorem own_ef_rm_nbl_1 (m : MethodId)  : entryFrame m #[(.int (1 : Int32))] 1 = mkF m 0 #[.val (.int (1 : Int32))] [] := by first | (simp [entryFrame, mkF, argsToLocals, Value.category]; done) | rfl
set_option maxRecDepth 65536 in
set_option maxHeartbeats 40000000 in
theorem rm_nbl_1 (l : Launch) (Z : State) (a0 : Array Value) (hw : ∀ d ∈ tables_1, d.before a0 Z = true)  (h0 : Heap) (n0 : Nat) (O0 : Old Z n0 h0)  :
    own_Met l Z (⟨"java/lang/StringUTF16", "newBytesLength", "(I)I"⟩ : MethodName) jdk_52_method_3_code 1 (some .int) [] ({ frames := 0, cells := 0, slots := 0, locals := 0 } : Room) #[(.int (1 : Int32))] h0 (fun v h L => v = some (.int (2 : Int32)) ∧ Fr n0 L ∧ h = h0) := by
  refine own_body own_pn_20 ?_
  intro p e s m below meth c s₁ hx hby hml hown hnm hret hlk X0 hZ e0
  replace hown : s.vm.findClass "java/lang/StringUTF16" = some m.cls := hown
  have N0 := Fr.nil n0
  have K0 := Keep.refl h0 []
  refine oS (fun _ k => castTop (own_ef_rm_nbl_1 m ) k) ?_
  show own_go _ _ _ _ _ _ _ (s₁.setTop (mkF m 0 #[.val (.int (1 : Int32))] []))
  refine oS (fun _ k => XS.iloadN X0.here hx rfl (hb hby d20_0) rfl k) ?_
  show own_go _ _ _ _ _ _ _ (s₁.setTop (mkF m 1 #[.val (.int (1 : Int32))] [(.int (1 : Int32))]))
  refine oS (fun _ k => XS.ifYes X0.here hx rfl (pc0 := 1) (pc' := 12) rfl (hb hby d20_1) rfl (by decide) (by decide) (by decide) k) ?_
  refine oS (fun _ k => XS.iloadN X0.here hx rfl (hb hby d20_12) rfl k) ?_
  show own_go _ _ _ _ _ _ _ (s₁.setTop (mkF m 13 #[.val (.int (1 : Int32))] [(.int (1 : Int32))]))
  refine oS (X0.ldcInt hx hown (mvT hZ (ow hw 90 rfl)) (g := (mkF m 13 #[.val (.int (1 : Int32))] [(.int (1 : Int32))])) rfl (hb hby d20_13)) ?_
  show own_go _ _ _ _ _ _ _ (s₁.setTop (mkF m 15 #[.val (.int (1 : Int32))] [(.int (1073741823 : Int32)), (.int (1 : Int32))]))
  refine oS (fun _ k => XS.icmpYes X0.here hx rfl (pc0 := 15) (pc' := 55) rfl (hb hby d20_15) rfl (by decide) (by decide) (by decide) k) ?_
  refine oS (fun _ k => XS.iloadN X0.here hx rfl (hb hby d20_55) rfl k) ?_
  refine oS (fun _ k => XS.iconst X0.here hx rfl (hb hby d20_56) k) ?_
  refine oS (fun _ k => XS.ishl X0.here hx rfl (hb hby d20_57) rfl k) ?_
  show own_go _ _ _ _ _ _ _ (s₁.setTop (mkF m 58 #[.val (.int (1 : Int32))] [(.int ((1 : Int32) <<< ((1 : Int32) &&& 31)))]))
  rw [(by decide : ((1 : Int32) <<< ((1 : Int32) &&& 31)) = (2 : Int32))]
  show own_go _ _ _ _ _ _ _ (s₁.setTop (mkF m 58 #[.val (.int (1 : Int32))] [(.int (2 : Int32))]))
  exact own_retI X0 hx hlk hret (hb hby d20_58) (by decide) (by decide) (⟨rfl, N0, e0⟩)
theorem d19_0 : decode jdk_52_method_2_code 0 = .ok (.iload_n 0, 1) := by decide +kernel
theorem d19_1 : decode jdk_52_method_2_code 1 = .ok (.invokestatic 11, 3) := by decide +kernel
theorem d19_4 : decode jdk_52_method_2_code 4 = .ok (.newarray .byte, 2) := by decide +kernel
theorem d19_6 : decode jdk_52_method_2_code 6 = .ok (.areturn, 1) := by decide +kernel
theorem own_pn_19 : plainFor (⟨"java/lang/StringUTF16", "newBytesFor", "(I)[B"⟩ : MethodName) = true := plainFor_of_name (show plainName "java/lang/StringUTF16" = true by first | (simp [plainName, overriddenIn]; done) | decide +kernel)
theorem own_pd__28I_29I : parseMethodDescriptor "(I)I" = some ⟨[.int], some .int⟩ := by decide +kernel
theorem own_ef_rm_nbf_1 (m : MethodId)  : entryFrame m #[(.int (1 : Int32))] 1 = mkF m 0 #[.val (.int (1 : Int32))] [] := by first | (simp [entryFrame, mkF, argsToLocals, Value.category]; done) | rfl
set_option maxRecDepth 65536 in
set_option maxHeartbeats 40000000 in
theorem rm_nbf_1 (l : Launch) (Z : State) (a0 : Array Value) (hw : ∀ d ∈ tables_1, d.before a0 Z = true)  (h0 : Heap) (n0 : Nat) (O0 : Old Z n0 h0)  :
    own_Met l Z (⟨"java/lang/StringUTF16", "newBytesFor", "(I)[B"⟩ : MethodName) jdk_52_method_2_code 1 (some (.array .byte)) [] ({ frames := 1, cells := 1, slots := 2, locals := 16 } : Room) #[(.int (1 : Int32))] h0 (fun v h L => ∃ a k, v = some (.ref a) ∧ Fr n0 L ∧ Keep h0 h [] ∧ h0.size ≤ a ∧ Arv Z h a k .byte (2 : Int32) [(.int (0 : Int32)), (.int (0 : Int32))] (.int (0 : Int32))) := by
  refine own_body own_pn_19 ?_
  intro p e s m below meth c s₁ hx hby hml hown hnm hret hlk X0 hZ e0
  replace hown : s.vm.findClass "java/lang/StringUTF16" = some m.cls := hown
  have N0 := Fr.nil n0
  have K0 := Keep.refl h0 []
  refine oS (fun _ k => castTop (own_ef_rm_nbf_1 m ) k) ?_
  show own_go _ _ _ _ _ _ _ (s₁.setTop (mkF m 0 #[.val (.int (1 : Int32))] []))
  refine oS (fun _ k => XS.iloadN X0.here hx rfl (hb hby d19_0) rfl k) ?_
  show own_go _ _ _ _ _ _ _ (s₁.setTop (mkF m 1 #[.val (.int (1 : Int32))] [(.int (1 : Int32))]))
  obtain ⟨v184, T184, L184, X184, hQ184, st184⟩ := own_callS X0 hx hZ (argsL := [(.int (1 : Int32))]) (rest := []) (rm_nbl_1 l Z a0 hw h0 n0 O0) hown (ow hw 87 rfl) (ow hw 88 rfl) (ow hw 38 rfl) (ow hw 89 rfl) (by decide) e0 (g := (mkF m 1 #[.val (.int (1 : Int32))] [(.int (1 : Int32))])) rfl (by rw [hml]; rfl) (lenOf own_pd__28I_29I rfl) rfl (W := 0) (by show 2 * 0 + _ ≤ _; exact Nat.le_of_eq rfl) (hb hby d19_1) (by decide) (by decide) (by decide) (by decide)
  obtain ⟨rfl, Nq184, eq184⟩ := hQ184
  have N184 := Fr.app N0 Nq184
  refine oS st184 ?_
  show own_go _ _ _ _ _ _ _ (T184.setTop (mkF m 4 #[.val (.int (1 : Int32))] [(.int (2 : Int32))]))
  obtain ⟨T185, h185, k185, b185, X185, e185, g185, E185, V185, st185⟩ := own_newP X184 hx hZ (aty := .byte) (ow hw 19 rfl) eq184 (g := (mkF m 4 #[.val (.int (1 : Int32))] [(.int (2 : Int32))])) rfl (hb hby d19_4) rfl (by decide) (cap := 2) (by decide) (by decide) (by decide) (by decide)
  replace V185 : Arv Z h185 b185 k185 .byte (2 : Int32) [(.int (0 : Int32)), (.int (0 : Int32))] (.int (0 : Int32)) := V185
  have ge_b185 : n0 ≤ b185 := by rw [g185]; exact own_osz O0
  have sz_b185 : h0.size ≤ b185 := by rw [g185]; exact K0.1
  have O185 := O0.ext E185
  have K185 := K0.ext E185
  refine oS st185 ?_
  show own_go _ _ _ _ _ _ _ (T185.setTop (mkF m 6 #[.val (.int (1 : Int32))] [(.ref b185)]))
  exact own_retA X185 hx hlk hret rfl rfl (hb hby d19_6) (by decide) (by decide) (by rw [e185]; exact ⟨_, _, rfl, N184, K185, sz_b185, V185⟩)
theorem d21_0 : decode jdk_52_method_4_code 0 = .ok (.getstatic 44, 3) := by decide +kernel
theorem d21_3 : decode jdk_52_method_4_code 3 = .ok (.ifCond .ne 25, 3) := by decide +kernel
theorem d21_28 : decode jdk_52_method_4_code 28 = .ok (.iload_n 1, 1) := by decide +kernel
theorem d21_29 : decode jdk_52_method_4_code 29 = .ok (.iconst 1, 1) := by decide +kernel
theorem d21_30 : decode jdk_52_method_4_code 30 = .ok (.ishl, 1) := by decide +kernel
theorem d21_31 : decode jdk_52_method_4_code 31 = .ok (.istore_n 1, 1) := by decide +kernel
theorem d21_32 : decode jdk_52_method_4_code 32 = .ok (.aload_n 0, 1) := by decide +kernel
theorem d21_33 : decode jdk_52_method_4_code 33 = .ok (.iload_n 1, 1) := by decide +kernel
theorem d21_34 : decode jdk_52_method_4_code 34 = .ok (.iinc 1 1, 3) := by decide +kernel
theorem d21_37 : decode jdk_52_method_4_code 37 = .ok (.iload_n 2, 1) := by decide +kernel
theorem d21_38 : decode jdk_52_method_4_code 38 = .ok (.getstatic 59, 3) := by decide +kernel
theorem d21_41 : decode jdk_52_method_4_code 41 = .ok (.ishr, 1) := by decide +kernel
theorem d21_42 : decode jdk_52_method_4_code 42 = .ok (.i2b, 1) := by decide +kernel
theorem d21_43 : decode jdk_52_method_4_code 43 = .ok (.bastore, 1) := by decide +kernel
theorem d21_44 : decode jdk_52_method_4_code 44 = .ok (.aload_n 0, 1) := by decide +kernel
theorem d21_45 : decode jdk_52_method_4_code 45 = .ok (.iload_n 1, 1) := by decide +kernel
theorem d21_46 : decode jdk_52_method_4_code 46 = .ok (.iload_n 2, 1) := by decide +kernel
theorem d21_47 : decode jdk_52_method_4_code 47 = .ok (.getstatic 63, 3) := by decide +kernel
theorem d21_50 : decode jdk_52_method_4_code 50 = .ok (.ishr, 1) := by decide +kernel
theorem d21_51 : decode jdk_52_method_4_code 51 = .ok (.i2b, 1) := by decide +kernel
theorem d21_52 : decode jdk_52_method_4_code 52 = .ok (.bastore, 1) := by decide +kernel
theorem d21_53 : decode jdk_52_method_4_code 53 = .ok (.return_, 1) := by decide +kernel
theorem own_pn_21 : plainFor (⟨"java/lang/StringUTF16", "putChar", "([BII)V"⟩ : MethodName) = true := plainFor_of_name (show plainName "java/lang/StringUTF16" = true by first | (simp [plainName, overriddenIn]; done) | decide +kernel)
theorem own_ef_rm_pc_1_0 (m : MethodId) (a1 : Addr) (y : Int32) : entryFrame m #[(.ref a1), (.int (0 : Int32)), (.int y)] 3 = mkF m 0 #[.val (.ref a1), .val (.int (0 : Int32)), .val (.int y)] [] := by first | (simp [entryFrame, mkF, argsToLocals, Value.category]; done) | rfl
set_option maxRecDepth 65536 in
set_option maxHeartbeats 40000000 in
theorem rm_pc_1_0 (l : Launch) (Z : State) (a0 : Array Value) (hw : ∀ d ∈ tables_1, d.before a0 Z = true) (a1 : Addr) (k1 : ClassId) (y x0 x1 : Int32) (zC : Int32) (vS : Value) (h0 : Heap) (n0 : Nat) (O0 : Old Z n0 h0) (hS : own_S Z zC vS) (ge_a1 : n0 ≤ a1) (V1 : Arv Z h0 a1 k1 .byte (2 : Int32) [(.int x0), (.int x1)] (.int (0 : Int32))) :
    own_Met l Z (⟨"java/lang/StringUTF16", "putChar", "([BII)V"⟩ : MethodName) jdk_52_method_4_code 3 none [] ({ frames := 0, cells := 0, slots := 0, locals := 0 } : Room) #[(.ref a1), (.int (0 : Int32)), (.int y)] h0 (fun v h L => v = none ∧ Fr n0 L ∧ Keep h0 h [a1] ∧ Arv Z h a1 k1 .byte (2 : Int32) [(.int (y.toInt8.toInt32)), (.int ((y >>> ((8 : Int32) &&& 31)).toInt8.toInt32))] (.int (0 : Int32))) := by
  refine own_body own_pn_21 ?_
  intro p e s m below meth c s₁ hx hby hml hown hnm hret hlk X0 hZ e0
  replace hown : s.vm.findClass "java/lang/StringUTF16" = some m.cls := hown
  have N0 := Fr.nil n0
  have K0 := Keep.refl h0 [a1]
  refine oS (fun _ k => castTop (own_ef_rm_pc_1_0 m a1 y) k) ?_
  show own_go _ _ _ _ _ _ _ (s₁.setTop (mkF m 0 #[.val (.ref a1), .val (.int (0 : Int32)), .val (.int y)] []))
  obtain ⟨T186, X186, e186, st186⟩ := getS2 X0 hx hZ hown (host := "") (Or.inl (ow hw 94 rfl)) Via.refl e0 (hS.2.2.2.2.1.ext O0.2) (g := (mkF m 0 #[.val (.ref a1), .val (.int (0 : Int32)), .val (.int y)] [])) rfl (hb hby d21_0)
  refine oS st186 ?_
  show own_go _ _ _ _ _ _ _ (T186.setTop (mkF m 3 #[.val (.ref a1), .val (.int (0 : Int32)), .val (.int y)] [(.int (1 : Int32))]))
  refine oS (fun _ k => XS.ifYes X186.here hx rfl (pc0 := 3) (pc' := 28) rfl (hb hby d21_3) rfl (by decide) (by decide) (by decide) k) ?_
  refine oS (fun _ k => XS.iloadN X186.here hx rfl (hb hby d21_28) rfl k) ?_
  refine oS (fun _ k => XS.iconst X186.here hx rfl (hb hby d21_29) k) ?_
  refine oS (fun _ k => XS.ishl X186.here hx rfl (hb hby d21_30) rfl k) ?_
  show own_go _ _ _ _ _ _ _ (T186.setTop (mkF m 31 #[.val (.ref a1), .val (.int (0 : Int32)), .val (.int y)] [(.int ((0 : Int32) <<< ((1 : Int32) &&& 31)))]))
  rw [(by decide : ((0 : Int32) <<< ((1 : Int32) &&& 31)) = (0 : Int32))]
  show own_go _ _ _ _ _ _ _ (T186.setTop (mkF m 31 #[.val (.ref a1), .val (.int (0 : Int32)), .val (.int y)] [(.int (0 : Int32))]))
  refine oS (fun _ k => XS.istoreN X186.here hx rfl (hb hby d21_31) rfl (l' := #[.val (.ref a1), .val (.int (0 : Int32)), .val (.int y)]) rfl k) ?_
  refine oS (fun _ k => XS.aloadN X186.here hx rfl (hb hby d21_32) rfl rfl k) ?_
  refine oS (fun _ k => XS.iloadN X186.here hx rfl (hb hby d21_33) rfl k) ?_
  refine oS (fun _ k => XS.iinc X186.here hx rfl (hb hby d21_34) rfl (l' := #[.val (.ref a1), .val (.int (1 : Int32)), .val (.int y)]) rfl k) ?_
  refine oS (fun _ k => XS.iloadN X186.here hx rfl (hb hby d21_37) rfl k) ?_
  show own_go _ _ _ _ _ _ _ (T186.setTop (mkF m 38 #[.val (.ref a1), .val (.int (1 : Int32)), .val (.int y)] [(.int y), (.int (0 : Int32)), (.ref a1)]))
  obtain ⟨T187, X187, e187, st187⟩ := getS2 X186 hx hZ hown (host := "") (Or.inl (ow hw 95 rfl)) Via.refl e186 (hS.2.2.2.2.2.1.ext O0.2) (g := (mkF m 38 #[.val (.ref a1), .val (.int (1 : Int32)), .val (.int y)] [(.int y), (.int (0 : Int32)), (.ref a1)])) rfl (hb hby d21_38)
  refine oS st187 ?_
  show own_go _ _ _ _ _ _ _ (T187.setTop (mkF m 41 #[.val (.ref a1), .val (.int (1 : Int32)), .val (.int y)] [(.int (0 : Int32)), (.int y), (.int (0 : Int32)), (.ref a1)]))
  refine oS (fun _ k => XS.ishr X187.here hx rfl (hb hby d21_41) rfl k) ?_
  show own_go _ _ _ _ _ _ _ (T187.setTop (mkF m 42 #[.val (.ref a1), .val (.int (1 : Int32)), .val (.int y)] [(.int (y >>> ((0 : Int32) &&& 31))), (.int (0 : Int32)), (.ref a1)]))
  rw [(StrChars.shr0 y)]
  show own_go _ _ _ _ _ _ _ (T187.setTop (mkF m 42 #[.val (.ref a1), .val (.int (1 : Int32)), .val (.int y)] [(.int y), (.int (0 : Int32)), (.ref a1)]))
  refine oS (fun _ k => XS.i2b X187.here hx rfl (hb hby d21_42) rfl k) ?_
  show own_go _ _ _ _ _ _ _ (T187.setTop (mkF m 43 #[.val (.ref a1), .val (.int (1 : Int32)), .val (.int y)] [(.int (y.toInt8.toInt32)), (.int (0 : Int32)), (.ref a1)]))
  obtain ⟨T188, h188, X188, e188, W188, V188, st188⟩ := own_putB X187 hx hZ e187 V1 (y := (y.toInt8.toInt32)) (own_nb8 _) (j := (0 : Int32)) (by decide) 0 (by decide) (by show 0 < 2; decide) (g := (mkF m 43 #[.val (.ref a1), .val (.int (1 : Int32)), .val (.int y)] [(.int (y.toInt8.toInt32)), (.int (0 : Int32)), (.ref a1)])) rfl rfl (hb hby d21_43)
  have N188 := Fr.snoc X188 N0 ge_a1
  replace V188 : Arv Z h188 a1 k1 .byte (2 : Int32) [(.int (y.toInt8.toInt32)), (.int x1)] (.int (0 : Int32)) := V188
  have O189 := O0.wr W188 ge_a1
  have K189 := K0.wr W188 (Or.inl (List.mem_of_getElem? (i := 0) rfl))
  refine oS st188 ?_
  show own_go _ _ _ _ _ _ _ (T188.setTop (mkF m 44 #[.val (.ref a1), .val (.int (1 : Int32)), .val (.int y)] []))
  refine oS (fun _ k => XS.aloadN X188.here hx rfl (hb hby d21_44) rfl rfl k) ?_
  refine oS (fun _ k => XS.iloadN X188.here hx rfl (hb hby d21_45) rfl k) ?_
  refine oS (fun _ k => XS.iloadN X188.here hx rfl (hb hby d21_46) rfl k) ?_
  show own_go _ _ _ _ _ _ _ (T188.setTop (mkF m 47 #[.val (.ref a1), .val (.int (1 : Int32)), .val (.int y)] [(.int y), (.int (1 : Int32)), (.ref a1)]))
  obtain ⟨T190, X190, e190, st190⟩ := getS2 X188 hx hZ hown (host := "") (Or.inl (ow hw 96 rfl)) Via.refl e188 (hS.2.2.2.2.2.2.ext O189.2) (g := (mkF m 47 #[.val (.ref a1), .val (.int (1 : Int32)), .val (.int y)] [(.int y), (.int (1 : Int32)), (.ref a1)])) rfl (hb hby d21_47)
  refine oS st190 ?_
  show own_go _ _ _ _ _ _ _ (T190.setTop (mkF m 50 #[.val (.ref a1), .val (.int (1 : Int32)), .val (.int y)] [(.int (8 : Int32)), (.int y), (.int (1 : Int32)), (.ref a1)]))
  refine oS (fun _ k => XS.ishr X190.here hx rfl (hb hby d21_50) rfl k) ?_
  refine oS (fun _ k => XS.i2b X190.here hx rfl (hb hby d21_51) rfl k) ?_
  show own_go _ _ _ _ _ _ _ (T190.setTop (mkF m 52 #[.val (.ref a1), .val (.int (1 : Int32)), .val (.int y)] [(.int ((y >>> ((8 : Int32) &&& 31)).toInt8.toInt32)), (.int (1 : Int32)), (.ref a1)]))
  obtain ⟨T191, h191, X191, e191, W191, V191, st191⟩ := own_putB X190 hx hZ e190 V188 (y := ((y >>> ((8 : Int32) &&& 31)).toInt8.toInt32)) (own_nb8 _) (j := (1 : Int32)) (by decide) 1 (by decide) (by show 1 < 2; decide) (g := (mkF m 52 #[.val (.ref a1), .val (.int (1 : Int32)), .val (.int y)] [(.int ((y >>> ((8 : Int32) &&& 31)).toInt8.toInt32)), (.int (1 : Int32)), (.ref a1)])) rfl rfl (hb hby d21_52)
  have N191 := Fr.snoc X191 N188 ge_a1
  replace V191 : Arv Z h191 a1 k1 .byte (2 : Int32) [(.int (y.toInt8.toInt32)), (.int ((y >>> ((8 : Int32) &&& 31)).toInt8.toInt32))] (.int (0 : Int32)) := V191
  have O192 := O189.wr W191 ge_a1
  have K192 := K189.wr W191 (Or.inl (List.mem_of_getElem? (i := 0) rfl))
  refine oS st191 ?_
  show own_go _ _ _ _ _ _ _ (T191.setTop (mkF m 53 #[.val (.ref a1), .val (.int (1 : Int32)), .val (.int y)] []))
  exact own_ret0 X191 hx hlk hret (hb hby d21_53) (by decide) (by decide) (by rw [e191]; exact ⟨rfl, N191, K192, V191⟩)
theorem d18_0 : decode jdk_52_method_14_code 0 = .ok (.iload_n 2, 1) := by decide +kernel
theorem d18_1 : decode jdk_52_method_14_code 1 = .ok (.invokestatic 107, 3) := by decide +kernel
theorem d18_4 : decode jdk_52_method_14_code 4 = .ok (.astore_n 3, 1) := by decide +kernel
theorem d18_5 : decode jdk_52_method_14_code 5 = .ok (.iconst 0, 1) := by decide +kernel
theorem d18_6 : decode jdk_52_method_14_code 6 = .ok (.istore 4, 2) := by decide +kernel
theorem d18_8 : decode jdk_52_method_14_code 8 = .ok (.iload 4, 2) := by decide +kernel
theorem d18_10 : decode jdk_52_method_14_code 10 = .ok (.iload_n 2, 1) := by decide +kernel
theorem d18_11 : decode jdk_52_method_14_code 11 = .ok (.if_icmp .ge 21, 3) := by decide +kernel
theorem d18_14 : decode jdk_52_method_14_code 14 = .ok (.aload_n 3, 1) := by decide +kernel
theorem d18_15 : decode jdk_52_method_14_code 15 = .ok (.iload 4, 2) := by decide +kernel
theorem d18_17 : decode jdk_52_method_14_code 17 = .ok (.aload_n 0, 1) := by decide +kernel
theorem d18_18 : decode jdk_52_method_14_code 18 = .ok (.iload_n 1, 1) := by decide +kernel
theorem d18_19 : decode jdk_52_method_14_code 19 = .ok (.caload, 1) := by decide +kernel
theorem d18_20 : decode jdk_52_method_14_code 20 = .ok (.invokestatic 111, 3) := by decide +kernel
theorem d18_23 : decode jdk_52_method_14_code 23 = .ok (.iinc 1 1, 3) := by decide +kernel
theorem d18_26 : decode jdk_52_method_14_code 26 = .ok (.iinc 4 1, 3) := by decide +kernel
theorem d18_29 : decode jdk_52_method_14_code 29 = .ok (.goto (-21), 3) := by decide +kernel
theorem d18_32 : decode jdk_52_method_14_code 32 = .ok (.aload_n 3, 1) := by decide +kernel
theorem d18_33 : decode jdk_52_method_14_code 33 = .ok (.areturn, 1) := by decide +kernel
theorem own_pn_18 : plainFor (⟨"java/lang/StringUTF16", "toBytes", "([CII)[B"⟩ : MethodName) = true := plainFor_of_name (show plainName "java/lang/StringUTF16" = true by first | (simp [plainName, overriddenIn]; done) | decide +kernel)
theorem own_pd__28I_29_5bB : parseMethodDescriptor "(I)[B" = some ⟨[.int], some (.array .byte)⟩ := by decide +kernel
theorem own_pd__28_5bBII_29V : parseMethodDescriptor "([BII)V" = some ⟨[(.array .byte), .int, .int], none⟩ := by decide +kernel
theorem own_ef_rm_tb_1 (m : MethodId) (a1 : Addr) : entryFrame m #[(.ref a1), (.int (0 : Int32)), (.int (1 : Int32))] 5 = mkF m 0 #[.val (.ref a1), .val (.int (0 : Int32)), .val (.int (1 : Int32)), .unset, .unset] [] := by first | (simp [entryFrame, mkF, argsToLocals, Value.category]; done) | rfl
set_option maxRecDepth 65536 in
set_option maxHeartbeats 40000000 in
theorem rm_tb_1 (l : Launch) (Z : State) (a0 : Array Value) (hw : ∀ d ∈ tables_1, d.before a0 Z = true) (a1 : Addr) (k1 : ClassId) (c0 : Int32) (zC : Int32) (vS : Value) (h0 : Heap) (n0 : Nat) (O0 : Old Z n0 h0) (hS : own_S Z zC vS) (V1 : Arv Z h0 a1 k1 .char (1 : Int32) [(.int c0)] (.int (0 : Int32))) :
    own_Met l Z (⟨"java/lang/StringUTF16", "toBytes", "([CII)[B"⟩ : MethodName) jdk_52_method_14_code 5 (some (.array .byte)) [] ({ frames := 2, cells := 1, slots := 2, locals := 30 } : Room) #[(.ref a1), (.int (0 : Int32)), (.int (1 : Int32))] h0 (fun v h L => ∃ a k, v = some (.ref a) ∧ Fr n0 L ∧ Keep h0 h [] ∧ h0.size ≤ a ∧ Arv Z h a k .byte (2 : Int32) [(.int (c0.toInt8.toInt32)), (.int ((c0 >>> ((8 : Int32) &&& 31)).toInt8.toInt32))] (.int (0 : Int32))) := by
  refine own_body own_pn_18 ?_
  intro p e s m below meth c s₁ hx hby hml hown hnm hret hlk X0 hZ e0
  replace hown : s.vm.findClass "java/lang/StringUTF16" = some m.cls := hown
  have N0 := Fr.nil n0
  have K0 := Keep.refl h0 []
  refine oS (fun _ k => castTop (own_ef_rm_tb_1 m a1) k) ?_
  show own_go _ _ _ _ _ _ _ (s₁.setTop (mkF m 0 #[.val (.ref a1), .val (.int (0 : Int32)), .val (.int (1 : Int32)), .unset, .unset] []))
  refine oS (fun _ k => XS.iloadN X0.here hx rfl (hb hby d18_0) rfl k) ?_
  show own_go _ _ _ _ _ _ _ (s₁.setTop (mkF m 1 #[.val (.ref a1), .val (.int (0 : Int32)), .val (.int (1 : Int32)), .unset, .unset] [(.int (1 : Int32))]))
  obtain ⟨v193, T193, L193, X193, hQ193, st193⟩ := own_callS X0 hx hZ (argsL := [(.int (1 : Int32))]) (rest := []) (rm_nbf_1 l Z a0 hw h0 n0 O0) hown (ow hw 84 rfl) (ow hw 85 rfl) (ow hw 38 rfl) (ow hw 86 rfl) (by decide) e0 (g := (mkF m 1 #[.val (.ref a1), .val (.int (0 : Int32)), .val (.int (1 : Int32)), .unset, .unset] [(.int (1 : Int32))])) rfl (by rw [hml]; rfl) (lenOf own_pd__28I_29_5bB rfl) rfl (W := 0) (by show 2 * 0 + _ ≤ _; exact Nat.le_of_eq rfl) (hb hby d18_1) (by decide) (by decide) (by decide) (by decide)
  obtain ⟨r193, kr193, rfl, Nq193, Kq193, sz193, Vq193⟩ := hQ193
  have N193 := Fr.app N0 Nq193
  have ne_a1_r193 : a1 ≠ r193 := (Nat.ne_of_lt (Nat.lt_of_lt_of_le V1.lt sz193))
  have O193 := O0.keep Kq193 all0
  have K193 := K0.trans Kq193 all0
  refine oS st193 ?_
  show own_go _ _ _ _ _ _ _ (T193.setTop (mkF m 4 #[.val (.ref a1), .val (.int (0 : Int32)), .val (.int (1 : Int32)), .unset, .unset] [(.ref r193)]))
  refine oS (fun _ k => XS.astoreN X193.here hx rfl (hb hby d18_4) rfl rfl (l' := #[.val (.ref a1), .val (.int (0 : Int32)), .val (.int (1 : Int32)), .val (.ref r193), .unset]) rfl k) ?_
  refine oS (fun _ k => XS.iconst X193.here hx rfl (hb hby d18_5) k) ?_
  refine oS (fun _ k => XS.istore X193.here hx rfl (hb hby d18_6) rfl (l' := #[.val (.ref a1), .val (.int (0 : Int32)), .val (.int (1 : Int32)), .val (.ref r193), .val (.int (0 : Int32))]) rfl k) ?_
  refine oS (fun _ k => XS.iload X193.here hx rfl (hb hby d18_8) rfl k) ?_
  refine oS (fun _ k => XS.iloadN X193.here hx rfl (hb hby d18_10) rfl k) ?_
  show own_go _ _ _ _ _ _ _ (T193.setTop (mkF m 11 #[.val (.ref a1), .val (.int (0 : Int32)), .val (.int (1 : Int32)), .val (.ref r193), .val (.int (0 : Int32))] [(.int (1 : Int32)), (.int (0 : Int32))]))
  refine oS (fun _ k => XS.icmpNo X193.here hx rfl (hb hby d18_11) rfl (by decide) k) ?_
  refine oS (fun _ k => XS.aloadN X193.here hx rfl (hb hby d18_14) rfl rfl k) ?_
  refine oS (fun _ k => XS.iload X193.here hx rfl (hb hby d18_15) rfl k) ?_
  refine oS (fun _ k => XS.aloadN X193.here hx rfl (hb hby d18_17) rfl rfl k) ?_
  refine oS (fun _ k => XS.iloadN X193.here hx rfl (hb hby d18_18) rfl k) ?_
  show own_go _ _ _ _ _ _ _ (T193.setTop (mkF m 19 #[.val (.ref a1), .val (.int (0 : Int32)), .val (.int (1 : Int32)), .val (.ref r193), .val (.int (0 : Int32))] [(.int (0 : Int32)), (.ref a1), (.int (0 : Int32)), (.ref r193)]))
  have f194 := (V1.keep Kq193 nin0)
  refine oS (own_getC X193 hx hZ rfl f194 (j := (0 : Int32)) (by decide) (v := (.int c0)) rfl (g := (mkF m 19 #[.val (.ref a1), .val (.int (0 : Int32)), .val (.int (1 : Int32)), .val (.ref r193), .val (.int (0 : Int32))] [(.int (0 : Int32)), (.ref a1), (.int (0 : Int32)), (.ref r193)])) rfl rfl (hb hby d18_19)) ?_
  show own_go _ _ _ _ _ _ _ (T193.setTop (mkF m 20 #[.val (.ref a1), .val (.int (0 : Int32)), .val (.int (1 : Int32)), .val (.ref r193), .val (.int (0 : Int32))] [(.int c0), (.int (0 : Int32)), (.ref r193)]))
  obtain ⟨v195, T195, L195, X195, hQ195, st195⟩ := own_callS X193 hx hZ (argsL := [(.ref r193), (.int (0 : Int32)), (.int c0)]) (rest := []) (rm_pc_1_0 l Z a0 hw r193 kr193 c0 (0 : Int32) (0 : Int32) zC vS T193.heap n0 O193 hS (Nat.le_trans (own_osz O0) sz193) Vq193) hown (ow hw 91 rfl) (ow hw 92 rfl) (ow hw 38 rfl) (ow hw 93 rfl) (by decide) rfl (g := (mkF m 20 #[.val (.ref a1), .val (.int (0 : Int32)), .val (.int (1 : Int32)), .val (.ref r193), .val (.int (0 : Int32))] [(.int c0), (.int (0 : Int32)), (.ref r193)])) rfl (by rw [hml]; rfl) (lenOf own_pd__28_5bBII_29V rfl) rfl (W := 0) (by show 2 * 0 + _ ≤ _; exact Nat.le_of_eq rfl) (hb hby d18_20) (by decide) (by decide) (by decide) (by decide)
  obtain ⟨rfl, Nq195, Kq195, Vq195⟩ := hQ195
  have N195 := Fr.app N193 Nq195
  have O195 := O193.keep Kq195 (allS (Nat.le_trans (own_osz O0) sz193) all0)
  have K195 := K193.trans Kq195 (allS (Or.inr (Nat.le_trans K0.1 sz193)) all0)
  refine oS st195 ?_
  show own_go _ _ _ _ _ _ _ (T195.setTop (mkF m 23 #[.val (.ref a1), .val (.int (0 : Int32)), .val (.int (1 : Int32)), .val (.ref r193), .val (.int (0 : Int32))] []))
  refine oS (fun _ k => XS.iinc X195.here hx rfl (hb hby d18_23) rfl (l' := #[.val (.ref a1), .val (.int (1 : Int32)), .val (.int (1 : Int32)), .val (.ref r193), .val (.int (0 : Int32))]) rfl k) ?_
  refine oS (fun _ k => XS.iinc X195.here hx rfl (hb hby d18_26) rfl (l' := #[.val (.ref a1), .val (.int (1 : Int32)), .val (.int (1 : Int32)), .val (.ref r193), .val (.int (1 : Int32))]) rfl k) ?_
  refine oS (fun _ k => XS.goto X195.here hx rfl (pc0 := 29) (pc' := 8) rfl (hb hby d18_29) (by decide) (by decide) k) ?_
  refine oS (fun _ k => XS.iload X195.here hx rfl (hb hby d18_8) rfl k) ?_
  refine oS (fun _ k => XS.iloadN X195.here hx rfl (hb hby d18_10) rfl k) ?_
  show own_go _ _ _ _ _ _ _ (T195.setTop (mkF m 11 #[.val (.ref a1), .val (.int (1 : Int32)), .val (.int (1 : Int32)), .val (.ref r193), .val (.int (1 : Int32))] [(.int (1 : Int32)), (.int (1 : Int32))]))
  refine oS (fun _ k => XS.icmpYes X195.here hx rfl (pc0 := 11) (pc' := 32) rfl (hb hby d18_11) rfl (by decide) (by decide) (by decide) k) ?_
  refine oS (fun _ k => XS.aloadN X195.here hx rfl (hb hby d18_32) rfl rfl k) ?_
  show own_go _ _ _ _ _ _ _ (T195.setTop (mkF m 33 #[.val (.ref a1), .val (.int (1 : Int32)), .val (.int (1 : Int32)), .val (.ref r193), .val (.int (1 : Int32))] [(.ref r193)]))
  exact own_retA X195 hx hlk hret rfl rfl (hb hby d18_33) (by decide) (by decide) ⟨_, _, rfl, N195, K195, (Nat.le_trans K0.1 sz193), Vq195⟩
theorem d8_0 : decode jdk_52_method_21_code 0 = .ok (.iconst 0, 1) := by decide +kernel
theorem d8_1 : decode jdk_52_method_21_code 1 = .ok (.istore 5, 2) := by decide +kernel
theorem d8_3 : decode jdk_52_method_21_code 3 = .ok (.iload 5, 2) := by decide +kernel
theorem d8_5 : decode jdk_52_method_21_code 5 = .ok (.iload 4, 2) := by decide +kernel
theorem d8_7 : decode jdk_52_method_21_code 7 = .ok (.if_icmp .ge 37, 3) := by decide +kernel
theorem d8_10 : decode jdk_52_method_21_code 10 = .ok (.aload_n 0, 1) := by decide +kernel
theorem d8_11 : decode jdk_52_method_21_code 11 = .ok (.iload_n 1, 1) := by decide +kernel
theorem d8_12 : decode jdk_52_method_21_code 12 = .ok (.caload, 1) := by decide +kernel
theorem d8_13 : decode jdk_52_method_21_code 13 = .ok (.istore 6, 2) := by decide +kernel
theorem d8_15 : decode jdk_52_method_21_code 15 = .ok (.iload 6, 2) := by decide +kernel
theorem d8_17 : decode jdk_52_method_21_code 17 = .ok (.sipush 255, 3) := by decide +kernel
theorem d8_20 : decode jdk_52_method_21_code 20 = .ok (.if_icmp .le 6, 3) := by decide +kernel
theorem d8_23 : decode jdk_52_method_21_code 23 = .ok (.iload 5, 2) := by decide +kernel
theorem d8_25 : decode jdk_52_method_21_code 25 = .ok (.ireturn, 1) := by decide +kernel
theorem d8_26 : decode jdk_52_method_21_code 26 = .ok (.aload_n 2, 1) := by decide +kernel
theorem d8_27 : decode jdk_52_method_21_code 27 = .ok (.iload_n 3, 1) := by decide +kernel
theorem d8_28 : decode jdk_52_method_21_code 28 = .ok (.iload 6, 2) := by decide +kernel
theorem d8_30 : decode jdk_52_method_21_code 30 = .ok (.i2b, 1) := by decide +kernel
theorem d8_31 : decode jdk_52_method_21_code 31 = .ok (.bastore, 1) := by decide +kernel
theorem d8_32 : decode jdk_52_method_21_code 32 = .ok (.iinc 1 1, 3) := by decide +kernel
theorem d8_35 : decode jdk_52_method_21_code 35 = .ok (.iinc 3 1, 3) := by decide +kernel
theorem d8_38 : decode jdk_52_method_21_code 38 = .ok (.iinc 5 1, 3) := by decide +kernel
theorem d8_41 : decode jdk_52_method_21_code 41 = .ok (.goto (-38), 3) := by decide +kernel
theorem d8_44 : decode jdk_52_method_21_code 44 = .ok (.iload 4, 2) := by decide +kernel
theorem d8_46 : decode jdk_52_method_21_code 46 = .ok (.ireturn, 1) := by decide +kernel
theorem own_pn_8 : plainFor (⟨"java/lang/StringUTF16", "compress", "([CI[BII)I"⟩ : MethodName) = true := plainFor_of_name (show plainName "java/lang/StringUTF16" = true by first | (simp [plainName, overriddenIn]; done) | decide +kernel)
theorem own_ef_rm_ci_1 (m : MethodId) (a1 : Addr) (a2 : Addr) : entryFrame m #[(.ref a1), (.int (0 : Int32)), (.ref a2), (.int (0 : Int32)), (.int (1 : Int32))] 7 = mkF m 0 #[.val (.ref a1), .val (.int (0 : Int32)), .val (.ref a2), .val (.int (0 : Int32)), .val (.int (1 : Int32)), .unset, .unset] [] := by first | (simp [entryFrame, mkF, argsToLocals, Value.category]; done) | rfl
set_option maxRecDepth 65536 in
set_option maxHeartbeats 40000000 in
theorem rm_ci_1 (l : Launch) (Z : State) (a0 : Array Value) (hw : ∀ d ∈ tables_1, d.before a0 Z = true) (a1 a2 : Addr) (k1 k2 : ClassId) (c0 : Int32) (h0 : Heap) (n0 : Nat) (O0 : Old Z n0 h0) (V1 : Arv Z h0 a1 k1 .char (1 : Int32) [(.int c0)] (.int (0 : Int32))) (V2 : Arv Z h0 a2 k2 .byte (1 : Int32) [(.int (0 : Int32))] (.int (0 : Int32))) (ge_a2 : n0 ≤ a2) (ne12 : a1 ≠ a2) :
    own_Met l Z (⟨"java/lang/StringUTF16", "compress", "([CI[BII)I"⟩ : MethodName) jdk_52_method_21_code 7 (some .int) [] ({ frames := 0, cells := 0, slots := 0, locals := 0 } : Room) #[(.ref a1), (.int (0 : Int32)), (.ref a2), (.int (0 : Int32)), (.int (1 : Int32))] h0 (fun v h L => ∃ z, v = some (.int z) ∧ Fr n0 L ∧ Keep h0 h [a2] ∧ (((255 : Int32) < c0) → z = (0 : Int32)) ∧ ((¬ (255 : Int32) < c0) → z = (1 : Int32) ∧ Arv Z h a2 k2 .byte (1 : Int32) [(.int (c0.toInt8.toInt32))] (.int (0 : Int32)))) := by
  refine own_body own_pn_8 ?_
  intro p e s m below meth c s₁ hx hby hml hown hnm hret hlk X0 hZ e0
  replace hown : s.vm.findClass "java/lang/StringUTF16" = some m.cls := hown
  have N0 := Fr.nil n0
  have K0 := Keep.refl h0 [a2]
  refine oS (fun _ k => castTop (own_ef_rm_ci_1 m a1 a2) k) ?_
  show own_go _ _ _ _ _ _ _ (s₁.setTop (mkF m 0 #[.val (.ref a1), .val (.int (0 : Int32)), .val (.ref a2), .val (.int (0 : Int32)), .val (.int (1 : Int32)), .unset, .unset] []))
  refine oS (fun _ k => XS.iconst X0.here hx rfl (hb hby d8_0) k) ?_
  refine oS (fun _ k => XS.istore X0.here hx rfl (hb hby d8_1) rfl (l' := #[.val (.ref a1), .val (.int (0 : Int32)), .val (.ref a2), .val (.int (0 : Int32)), .val (.int (1 : Int32)), .val (.int (0 : Int32)), .unset]) rfl k) ?_
  refine oS (fun _ k => XS.iload X0.here hx rfl (hb hby d8_3) rfl k) ?_
  refine oS (fun _ k => XS.iload X0.here hx rfl (hb hby d8_5) rfl k) ?_
  show own_go _ _ _ _ _ _ _ (s₁.setTop (mkF m 7 #[.val (.ref a1), .val (.int (0 : Int32)), .val (.ref a2), .val (.int (0 : Int32)), .val (.int (1 : Int32)), .val (.int (0 : Int32)), .unset] [(.int (1 : Int32)), (.int (0 : Int32))]))
  refine oS (fun _ k => XS.icmpNo X0.here hx rfl (hb hby d8_7) rfl (by decide) k) ?_
  refine oS (fun _ k => XS.aloadN X0.here hx rfl (hb hby d8_10) rfl rfl k) ?_
  refine oS (fun _ k => XS.iloadN X0.here hx rfl (hb hby d8_11) rfl k) ?_
  show own_go _ _ _ _ _ _ _ (s₁.setTop (mkF m 12 #[.val (.ref a1), .val (.int (0 : Int32)), .val (.ref a2), .val (.int (0 : Int32)), .val (.int (1 : Int32)), .val (.int (0 : Int32)), .unset] [(.int (0 : Int32)), (.ref a1)]))
  refine oS (own_getC X0 hx hZ e0 V1 (j := (0 : Int32)) (by decide) (v := (.int c0)) rfl (g := (mkF m 12 #[.val (.ref a1), .val (.int (0 : Int32)), .val (.ref a2), .val (.int (0 : Int32)), .val (.int (1 : Int32)), .val (.int (0 : Int32)), .unset] [(.int (0 : Int32)), (.ref a1)])) rfl rfl (hb hby d8_12)) ?_
  show own_go _ _ _ _ _ _ _ (s₁.setTop (mkF m 13 #[.val (.ref a1), .val (.int (0 : Int32)), .val (.ref a2), .val (.int (0 : Int32)), .val (.int (1 : Int32)), .val (.int (0 : Int32)), .unset] [(.int c0)]))
  refine oS (fun _ k => XS.istore X0.here hx rfl (hb hby d8_13) rfl (l' := #[.val (.ref a1), .val (.int (0 : Int32)), .val (.ref a2), .val (.int (0 : Int32)), .val (.int (1 : Int32)), .val (.int (0 : Int32)), .val (.int c0)]) rfl k) ?_
  refine oS (fun _ k => XS.iload X0.here hx rfl (hb hby d8_15) rfl k) ?_
  refine oS (fun _ k => XS.sipush X0.here hx rfl (hb hby d8_17) k) ?_
  show own_go _ _ _ _ _ _ _ (s₁.setTop (mkF m 20 #[.val (.ref a1), .val (.int (0 : Int32)), .val (.ref a2), .val (.int (0 : Int32)), .val (.int (1 : Int32)), .val (.int (0 : Int32)), .val (.int c0)] [(.int (255 : Int32)), (.int c0)]))
  by_cases hc196 : (255 : Int32) < c0
  · skip
    refine oS (fun _ k => XS.icmpNo X0.here hx rfl (hb hby d8_20) rfl (XT.ii_le_f hc196) k) ?_
    refine oS (fun _ k => XS.iload X0.here hx rfl (hb hby d8_23) rfl k) ?_
    show own_go _ _ _ _ _ _ _ (s₁.setTop (mkF m 25 #[.val (.ref a1), .val (.int (0 : Int32)), .val (.ref a2), .val (.int (0 : Int32)), .val (.int (1 : Int32)), .val (.int (0 : Int32)), .val (.int c0)] [(.int (0 : Int32))]))
    exact own_retI X0 hx hlk hret (hb hby d8_25) (by decide) (by decide) (by rw [e0]; exact ⟨_, rfl, N0, K0, fun _ => rfl, fun q => absurd hc196 q⟩)
  · skip
    refine oS (fun _ k => XS.icmpYes X0.here hx rfl (pc0 := 20) (pc' := 26) rfl (hb hby d8_20) rfl (XT.ii_le_t hc196) (by decide) (by decide) k) ?_
    refine oS (fun _ k => XS.aloadN X0.here hx rfl (hb hby d8_26) rfl rfl k) ?_
    refine oS (fun _ k => XS.iloadN X0.here hx rfl (hb hby d8_27) rfl k) ?_
    refine oS (fun _ k => XS.iload X0.here hx rfl (hb hby d8_28) rfl k) ?_
    refine oS (fun _ k => XS.i2b X0.here hx rfl (hb hby d8_30) rfl k) ?_
    show own_go _ _ _ _ _ _ _ (s₁.setTop (mkF m 31 #[.val (.ref a1), .val (.int (0 : Int32)), .val (.ref a2), .val (.int (0 : Int32)), .val (.int (1 : Int32)), .val (.int (0 : Int32)), .val (.int c0)] [(.int (c0.toInt8.toInt32)), (.int (0 : Int32)), (.ref a2)]))
    obtain ⟨T197, h197, X197, e197, W197, V197, st197⟩ := own_putB X0 hx hZ e0 V2 (y := (c0.toInt8.toInt32)) (own_nb8 _) (j := (0 : Int32)) (by decide) 0 (by decide) (by show 0 < 1; decide) (g := (mkF m 31 #[.val (.ref a1), .val (.int (0 : Int32)), .val (.ref a2), .val (.int (0 : Int32)), .val (.int (1 : Int32)), .val (.int (0 : Int32)), .val (.int c0)] [(.int (c0.toInt8.toInt32)), (.int (0 : Int32)), (.ref a2)])) rfl rfl (hb hby d8_31)
    have N197 := Fr.snoc X197 N0 ge_a2
    replace V197 : Arv Z h197 a2 k2 .byte (1 : Int32) [(.int (c0.toInt8.toInt32))] (.int (0 : Int32)) := V197
    have O198 := O0.wr W197 ge_a2
    have K198 := K0.wr W197 (Or.inl (List.mem_of_getElem? (i := 0) rfl))
    refine oS st197 ?_
    show own_go _ _ _ _ _ _ _ (T197.setTop (mkF m 32 #[.val (.ref a1), .val (.int (0 : Int32)), .val (.ref a2), .val (.int (0 : Int32)), .val (.int (1 : Int32)), .val (.int (0 : Int32)), .val (.int c0)] []))
    refine oS (fun _ k => XS.iinc X197.here hx rfl (hb hby d8_32) rfl (l' := #[.val (.ref a1), .val (.int (1 : Int32)), .val (.ref a2), .val (.int (0 : Int32)), .val (.int (1 : Int32)), .val (.int (0 : Int32)), .val (.int c0)]) rfl k) ?_
    refine oS (fun _ k => XS.iinc X197.here hx rfl (hb hby d8_35) rfl (l' := #[.val (.ref a1), .val (.int (1 : Int32)), .val (.ref a2), .val (.int (1 : Int32)), .val (.int (1 : Int32)), .val (.int (0 : Int32)), .val (.int c0)]) rfl k) ?_
    refine oS (fun _ k => XS.iinc X197.here hx rfl (hb hby d8_38) rfl (l' := #[.val (.ref a1), .val (.int (1 : Int32)), .val (.ref a2), .val (.int (1 : Int32)), .val (.int (1 : Int32)), .val (.int (1 : Int32)), .val (.int c0)]) rfl k) ?_
    refine oS (fun _ k => XS.goto X197.here hx rfl (pc0 := 41) (pc' := 3) rfl (hb hby d8_41) (by decide) (by decide) k) ?_
    refine oS (fun _ k => XS.iload X197.here hx rfl (hb hby d8_3) rfl k) ?_
    show own_go _ _ _ _ _ _ _ (T197.setTop (mkF m 5 #[.val (.ref a1), .val (.int (1 : Int32)), .val (.ref a2), .val (.int (1 : Int32)), .val (.int (1 : Int32)), .val (.int (1 : Int32)), .val (.int c0)] [(.int (1 : Int32))]))
    refine oS (fun _ k => XS.iload X197.here hx rfl (hb hby d8_5) rfl k) ?_
    show own_go _ _ _ _ _ _ _ (T197.setTop (mkF m 7 #[.val (.ref a1), .val (.int (1 : Int32)), .val (.ref a2), .val (.int (1 : Int32)), .val (.int (1 : Int32)), .val (.int (1 : Int32)), .val (.int c0)] [(.int (1 : Int32)), (.int (1 : Int32))]))
    refine oS (fun _ k => XS.icmpYes X197.here hx rfl (pc0 := 7) (pc' := 44) rfl (hb hby d8_7) rfl (by decide) (by decide) (by decide) k) ?_
    refine oS (fun _ k => XS.iload X197.here hx rfl (hb hby d8_44) rfl k) ?_
    show own_go _ _ _ _ _ _ _ (T197.setTop (mkF m 46 #[.val (.ref a1), .val (.int (1 : Int32)), .val (.ref a2), .val (.int (1 : Int32)), .val (.int (1 : Int32)), .val (.int (1 : Int32)), .val (.int c0)] [(.int (1 : Int32))]))
    exact own_retI X197 hx hlk hret (hb hby d8_46) (by decide) (by decide) (by rw [e197]; exact ⟨_, rfl, N197, K198, fun q => absurd q hc196, fun _ => ⟨rfl, V197⟩⟩)
theorem d7_0 : decode jdk_52_method_16_code 0 = .ok (.iload_n 2, 1) := by decide +kernel
theorem d7_1 : decode jdk_52_method_16_code 1 = .ok (.newarray .byte, 2) := by decide +kernel
theorem d7_3 : decode jdk_52_method_16_code 3 = .ok (.astore_n 3, 1) := by decide +kernel
theorem d7_4 : decode jdk_52_method_16_code 4 = .ok (.aload_n 0, 1) := by decide +kernel
theorem d7_5 : decode jdk_52_method_16_code 5 = .ok (.iload_n 1, 1) := by decide +kernel
theorem d7_6 : decode jdk_52_method_16_code 6 = .ok (.aload_n 3, 1) := by decide +kernel
theorem d7_7 : decode jdk_52_method_16_code 7 = .ok (.iconst 0, 1) := by decide +kernel
theorem d7_8 : decode jdk_52_method_16_code 8 = .ok (.iload_n 2, 1) := by decide +kernel
theorem d7_9 : decode jdk_52_method_16_code 9 = .ok (.invokestatic 115, 3) := by decide +kernel
theorem d7_12 : decode jdk_52_method_16_code 12 = .ok (.istore 4, 2) := by decide +kernel
theorem d7_14 : decode jdk_52_method_16_code 14 = .ok (.iload 4, 2) := by decide +kernel
theorem d7_16 : decode jdk_52_method_16_code 16 = .ok (.iload_n 2, 1) := by decide +kernel
theorem d7_17 : decode jdk_52_method_16_code 17 = .ok (.if_icmp .eq 40, 3) := by decide +kernel
theorem d7_20 : decode jdk_52_method_16_code 20 = .ok (.aload_n 0, 1) := by decide +kernel
theorem d7_21 : decode jdk_52_method_16_code 21 = .ok (.iload_n 1, 1) := by decide +kernel
theorem d7_22 : decode jdk_52_method_16_code 22 = .ok (.iload_n 2, 1) := by decide +kernel
theorem d7_23 : decode jdk_52_method_16_code 23 = .ok (.invokestatic 119, 3) := by decide +kernel
theorem d7_26 : decode jdk_52_method_16_code 26 = .ok (.astore 5, 2) := by decide +kernel
theorem d7_28 : decode jdk_52_method_16_code 28 = .ok (.aload 5, 2) := by decide +kernel
theorem d7_30 : decode jdk_52_method_16_code 30 = .ok (.iload 4, 2) := by decide +kernel
theorem d7_32 : decode jdk_52_method_16_code 32 = .ok (.invokestatic 71, 3) := by decide +kernel
theorem d7_35 : decode jdk_52_method_16_code 35 = .ok (.sipush 255, 3) := by decide +kernel
theorem d7_38 : decode jdk_52_method_16_code 38 = .ok (.if_icmp .gt 16, 3) := by decide +kernel
theorem d7_54 : decode jdk_52_method_16_code 54 = .ok (.aload 5, 2) := by decide +kernel
theorem d7_56 : decode jdk_52_method_16_code 56 = .ok (.areturn, 1) := by decide +kernel
theorem own_pn_7 : plainFor (⟨"java/lang/StringUTF16", "compress", "([CII)[B"⟩ : MethodName) = true := plainFor_of_name (show plainName "java/lang/StringUTF16" = true by first | (simp [plainName, overriddenIn]; done) | decide +kernel)
theorem own_pd__28_5bCI_5bBII_29I : parseMethodDescriptor "([CI[BII)I" = some ⟨[(.array .char), .int, (.array .byte), .int, .int], some .int⟩ := by decide +kernel
theorem own_pd__28_5bCII_29_5bB : parseMethodDescriptor "([CII)[B" = some ⟨[(.array .char), .int, .int], some (.array .byte)⟩ := by decide +kernel
theorem own_ef_rm_co_1_0 (m : MethodId) (a1 : Addr) : entryFrame m #[(.ref a1), (.int (0 : Int32)), (.int (1 : Int32))] 6 = mkF m 0 #[.val (.ref a1), .val (.int (0 : Int32)), .val (.int (1 : Int32)), .unset, .unset, .unset] [] := by first | (simp [entryFrame, mkF, argsToLocals, Value.category]; done) | rfl
set_option maxRecDepth 65536 in
set_option maxHeartbeats 40000000 in
theorem rm_co_1_0 (l : Launch) (Z : State) (a0 : Array Value) (hw : ∀ d ∈ tables_1, d.before a0 Z = true) (a1 : Addr) (k1 : ClassId) (c0 : Int32) (zC : Int32) (vS : Value) (h0 : Heap) (n0 : Nat) (O0 : Old Z n0 h0) (hS : own_S Z zC vS) (V1 : Arv Z h0 a1 k1 .char (1 : Int32) [(.int c0)] (.int (0 : Int32))) (hc0 : own_ch c0) (hB : (255 : Int32) < c0) :
    own_Met l Z (⟨"java/lang/StringUTF16", "compress", "([CII)[B"⟩ : MethodName) jdk_52_method_16_code 6 (some (.array .byte)) [] ({ frames := 3, cells := 2, slots := 3, locals := 60 } : Room) #[(.ref a1), (.int (0 : Int32)), (.int (1 : Int32))] h0 (fun v h L => ∃ a k, v = some (.ref a) ∧ Fr n0 L ∧ Keep h0 h [] ∧ h0.size ≤ a ∧ Arv Z h a k .byte (2 : Int32) [(.int (c0.toInt8.toInt32)), (.int ((c0 >>> ((8 : Int32) &&& 31)).toInt8.toInt32))] (.int (0 : Int32))) := by
  refine own_body own_pn_7 ?_
  intro p e s m below meth c s₁ hx hby hml hown hnm hret hlk X0 hZ e0
  replace hown : s.vm.findClass "java/lang/StringUTF16" = some m.cls := hown
  have N0 := Fr.nil n0
  have K0 := Keep.refl h0 []
  refine oS (fun _ k => castTop (own_ef_rm_co_1_0 m a1) k) ?_
  show own_go _ _ _ _ _ _ _ (s₁.setTop (mkF m 0 #[.val (.ref a1), .val (.int (0 : Int32)), .val (.int (1 : Int32)), .unset, .unset, .unset] []))
  refine oS (fun _ k => XS.iloadN X0.here hx rfl (hb hby d7_0) rfl k) ?_
  show own_go _ _ _ _ _ _ _ (s₁.setTop (mkF m 1 #[.val (.ref a1), .val (.int (0 : Int32)), .val (.int (1 : Int32)), .unset, .unset, .unset] [(.int (1 : Int32))]))
  obtain ⟨T199, h199, k199, b199, X199, e199, g199, E199, V199, st199⟩ := own_newP X0 hx hZ (aty := .byte) (ow hw 19 rfl) e0 (g := (mkF m 1 #[.val (.ref a1), .val (.int (0 : Int32)), .val (.int (1 : Int32)), .unset, .unset, .unset] [(.int (1 : Int32))])) rfl (hb hby d7_1) rfl (by decide) (cap := 1) (by decide) (by decide) (by decide) (by decide)
  replace V199 : Arv Z h199 b199 k199 .byte (1 : Int32) [(.int (0 : Int32))] (.int (0 : Int32)) := V199
  have ge_b199 : n0 ≤ b199 := by rw [g199]; exact own_osz O0
  have sz_b199 : h0.size ≤ b199 := by rw [g199]; exact K0.1
  have ne_a1_b199 : a1 ≠ b199 := (fun q => absurd V1.lt (by rw [q, g199]; exact Nat.lt_irrefl _))
  have O199 := O0.ext E199
  have K199 := K0.ext E199
  refine oS st199 ?_
  show own_go _ _ _ _ _ _ _ (T199.setTop (mkF m 3 #[.val (.ref a1), .val (.int (0 : Int32)), .val (.int (1 : Int32)), .unset, .unset, .unset] [(.ref b199)]))
  refine oS (fun _ k => XS.astoreN X199.here hx rfl (hb hby d7_3) rfl rfl (l' := #[.val (.ref a1), .val (.int (0 : Int32)), .val (.int (1 : Int32)), .val (.ref b199), .unset, .unset]) rfl k) ?_
  refine oS (fun _ k => XS.aloadN X199.here hx rfl (hb hby d7_4) rfl rfl k) ?_
  refine oS (fun _ k => XS.iloadN X199.here hx rfl (hb hby d7_5) rfl k) ?_
  refine oS (fun _ k => XS.aloadN X199.here hx rfl (hb hby d7_6) rfl rfl k) ?_
  refine oS (fun _ k => XS.iconst X199.here hx rfl (hb hby d7_7) k) ?_
  show own_go _ _ _ _ _ _ _ (T199.setTop (mkF m 8 #[.val (.ref a1), .val (.int (0 : Int32)), .val (.int (1 : Int32)), .val (.ref b199), .unset, .unset] [(.int (0 : Int32)), (.ref b199), (.int (0 : Int32)), (.ref a1)]))
  refine oS (fun _ k => XS.iloadN X199.here hx rfl (hb hby d7_8) rfl k) ?_
  show own_go _ _ _ _ _ _ _ (T199.setTop (mkF m 9 #[.val (.ref a1), .val (.int (0 : Int32)), .val (.int (1 : Int32)), .val (.ref b199), .unset, .unset] [(.int (1 : Int32)), (.int (0 : Int32)), (.ref b199), (.int (0 : Int32)), (.ref a1)]))
  have f201 := (V1.ext E199)
  obtain ⟨v200, T200, L200, X200, hQ200, st200⟩ := own_callS X199 hx hZ (argsL := [(.ref a1), (.int (0 : Int32)), (.ref b199), (.int (0 : Int32)), (.int (1 : Int32))]) (rest := []) (rm_ci_1 l Z a0 hw a1 b199 k1 k199 c0 h199 n0 O199 f201 V199 ge_b199 ne_a1_b199) hown (ow hw 40 rfl) (ow hw 41 rfl) (ow hw 38 rfl) (ow hw 42 rfl) (by decide) e199 (g := (mkF m 9 #[.val (.ref a1), .val (.int (0 : Int32)), .val (.int (1 : Int32)), .val (.ref b199), .unset, .unset] [(.int (1 : Int32)), (.int (0 : Int32)), (.ref b199), (.int (0 : Int32)), (.ref a1)])) rfl (by rw [hml]; rfl) (lenOf own_pd__28_5bCI_5bBII_29I rfl) rfl (W := 0) (by show 2 * 0 + _ ≤ _; exact Nat.le_of_eq rfl) (hb hby d7_9) (by decide) (by decide) (by decide) (by decide)
  obtain ⟨z200, rfl, Nq200, Kq200, i0_200, i1_200⟩ := hQ200
  have N200 := Fr.app N0 Nq200
  obtain rfl := i0_200 hB
  have O200 := O199.keep Kq200 (allS ge_b199 all0)
  have K200 := K199.trans Kq200 (allS (Or.inr sz_b199) all0)
  refine oS st200 ?_
  show own_go _ _ _ _ _ _ _ (T200.setTop (mkF m 12 #[.val (.ref a1), .val (.int (0 : Int32)), .val (.int (1 : Int32)), .val (.ref b199), .unset, .unset] [(.int (0 : Int32))]))
  refine oS (fun _ k => XS.istore X200.here hx rfl (hb hby d7_12) rfl (l' := #[.val (.ref a1), .val (.int (0 : Int32)), .val (.int (1 : Int32)), .val (.ref b199), .val (.int (0 : Int32)), .unset]) rfl k) ?_
  refine oS (fun _ k => XS.iload X200.here hx rfl (hb hby d7_14) rfl k) ?_
  refine oS (fun _ k => XS.iloadN X200.here hx rfl (hb hby d7_16) rfl k) ?_
  show own_go _ _ _ _ _ _ _ (T200.setTop (mkF m 17 #[.val (.ref a1), .val (.int (0 : Int32)), .val (.int (1 : Int32)), .val (.ref b199), .val (.int (0 : Int32)), .unset] [(.int (1 : Int32)), (.int (0 : Int32))]))
  refine oS (fun _ k => XS.icmpNo X200.here hx rfl (hb hby d7_17) rfl (by decide) k) ?_
  refine oS (fun _ k => XS.aloadN X200.here hx rfl (hb hby d7_20) rfl rfl k) ?_
  refine oS (fun _ k => XS.iloadN X200.here hx rfl (hb hby d7_21) rfl k) ?_
  refine oS (fun _ k => XS.iloadN X200.here hx rfl (hb hby d7_22) rfl k) ?_
  show own_go _ _ _ _ _ _ _ (T200.setTop (mkF m 23 #[.val (.ref a1), .val (.int (0 : Int32)), .val (.int (1 : Int32)), .val (.ref b199), .val (.int (0 : Int32)), .unset] [(.int (1 : Int32)), (.int (0 : Int32)), (.ref a1)]))
  have f203 := (f201.keep Kq200 (ninS ne_a1_b199 nin0))
  obtain ⟨v202, T202, L202, X202, hQ202, st202⟩ := own_callS X200 hx hZ (argsL := [(.ref a1), (.int (0 : Int32)), (.int (1 : Int32))]) (rest := []) (rm_tb_1 l Z a0 hw a1 k1 c0 zC vS T200.heap n0 O200 hS f203) hown (ow hw 81 rfl) (ow hw 82 rfl) (ow hw 38 rfl) (ow hw 83 rfl) (by decide) rfl (g := (mkF m 23 #[.val (.ref a1), .val (.int (0 : Int32)), .val (.int (1 : Int32)), .val (.ref b199), .val (.int (0 : Int32)), .unset] [(.int (1 : Int32)), (.int (0 : Int32)), (.ref a1)])) rfl (by rw [hml]; rfl) (lenOf own_pd__28_5bCII_29_5bB rfl) rfl (W := 0) (by show 2 * 0 + _ ≤ _; exact Nat.le_of_eq rfl) (hb hby d7_23) (by decide) (by decide) (by decide) (by decide)
  obtain ⟨r202, kr202, rfl, Nq202, Kq202, sz202, Vq202⟩ := hQ202
  have N202 := Fr.app N200 Nq202
  have ne_a1_r202 : a1 ≠ r202 := (Nat.ne_of_lt (Nat.lt_of_lt_of_le f203.lt sz202))
  have O202 := O200.keep Kq202 all0
  have K202 := K200.trans Kq202 all0
  refine oS st202 ?_
  show own_go _ _ _ _ _ _ _ (T202.setTop (mkF m 26 #[.val (.ref a1), .val (.int (0 : Int32)), .val (.int (1 : Int32)), .val (.ref b199), .val (.int (0 : Int32)), .unset] [(.ref r202)]))
  refine oS (fun _ k => XS.astore X202.here hx rfl (hb hby d7_26) rfl rfl (l' := #[.val (.ref a1), .val (.int (0 : Int32)), .val (.int (1 : Int32)), .val (.ref b199), .val (.int (0 : Int32)), .val (.ref r202)]) rfl k) ?_
  refine oS (fun _ k => XS.aload X202.here hx rfl (hb hby d7_28) rfl rfl k) ?_
  refine oS (fun _ k => XS.iload X202.here hx rfl (hb hby d7_30) rfl k) ?_
  show own_go _ _ _ _ _ _ _ (T202.setTop (mkF m 32 #[.val (.ref a1), .val (.int (0 : Int32)), .val (.int (1 : Int32)), .val (.ref b199), .val (.int (0 : Int32)), .val (.ref r202)] [(.int (0 : Int32)), (.ref r202)]))
  obtain ⟨v204, T204, L204, X204, hQ204, st204⟩ := own_callS X202 hx hZ (argsL := [(.ref r202), (.int (0 : Int32))]) (rest := []) (rm_gc_1_0 l Z a0 hw r202 kr202 c0 zC vS T202.heap n0 O202 hS Vq202 hc0) hown (ow hw 97 rfl) (ow hw 98 rfl) (ow hw 38 rfl) (ow hw 99 rfl) (by decide) rfl (g := (mkF m 32 #[.val (.ref a1), .val (.int (0 : Int32)), .val (.int (1 : Int32)), .val (.ref b199), .val (.int (0 : Int32)), .val (.ref r202)] [(.int (0 : Int32)), (.ref r202)])) rfl (by rw [hml]; rfl) (lenOf own_pd__28_5bBI_29C rfl) rfl (W := 0) (by show 2 * 0 + _ ≤ _; exact Nat.le_of_eq rfl) (hb hby d7_32) (by decide) (by decide) (by decide) (by decide)
  obtain ⟨rfl, Nq204, eq204⟩ := hQ204
  have N204 := Fr.app N202 Nq204
  refine oS st204 ?_
  show own_go _ _ _ _ _ _ _ (T204.setTop (mkF m 35 #[.val (.ref a1), .val (.int (0 : Int32)), .val (.int (1 : Int32)), .val (.ref b199), .val (.int (0 : Int32)), .val (.ref r202)] [(.int c0)]))
  refine oS (fun _ k => XS.sipush X204.here hx rfl (hb hby d7_35) k) ?_
  show own_go _ _ _ _ _ _ _ (T204.setTop (mkF m 38 #[.val (.ref a1), .val (.int (0 : Int32)), .val (.int (1 : Int32)), .val (.ref b199), .val (.int (0 : Int32)), .val (.ref r202)] [(.int (255 : Int32)), (.int c0)]))
  refine oS (fun _ k => XS.icmpYes X204.here hx rfl (pc0 := 38) (pc' := 54) rfl (hb hby d7_38) rfl (XT.ii_gt_t hB) (by decide) (by decide) k) ?_
  refine oS (fun _ k => XS.aload X204.here hx rfl (hb hby d7_54) rfl rfl k) ?_
  show own_go _ _ _ _ _ _ _ (T204.setTop (mkF m 56 #[.val (.ref a1), .val (.int (0 : Int32)), .val (.int (1 : Int32)), .val (.ref b199), .val (.int (0 : Int32)), .val (.ref r202)] [(.ref r202)]))
  exact own_retA X204 hx hlk hret rfl rfl (hb hby d7_56) (by decide) (by decide) (by rw [eq204]; exact ⟨_, _, rfl, N204, K202, (Nat.le_trans K200.1 sz202), Vq202⟩)
theorem d7_57 : decode jdk_52_method_16_code 57 = .ok (.aload_n 3, 1) := by decide +kernel
theorem d7_58 : decode jdk_52_method_16_code 58 = .ok (.areturn, 1) := by decide +kernel
theorem own_ef_rm_co_1_1 (m : MethodId) (a1 : Addr) : entryFrame m #[(.ref a1), (.int (0 : Int32)), (.int (1 : Int32))] 6 = mkF m 0 #[.val (.ref a1), .val (.int (0 : Int32)), .val (.int (1 : Int32)), .unset, .unset, .unset] [] := by first | (simp [entryFrame, mkF, argsToLocals, Value.category]; done) | rfl
set_option maxRecDepth 65536 in
set_option maxHeartbeats 40000000 in
theorem rm_co_1_1 (l : Launch) (Z : State) (a0 : Array Value) (hw : ∀ d ∈ tables_1, d.before a0 Z = true) (a1 : Addr) (k1 : ClassId) (c0 : Int32) (zC : Int32) (vS : Value) (h0 : Heap) (n0 : Nat) (O0 : Old Z n0 h0) (hS : own_S Z zC vS) (V1 : Arv Z h0 a1 k1 .char (1 : Int32) [(.int c0)] (.int (0 : Int32))) (hc0 : own_ch c0) (hl0 : ¬ (255 : Int32) < c0) :
    own_Met l Z (⟨"java/lang/StringUTF16", "compress", "([CII)[B"⟩ : MethodName) jdk_52_method_16_code 6 (some (.array .byte)) [] ({ frames := 3, cells := 2, slots := 3, locals := 60 } : Room) #[(.ref a1), (.int (0 : Int32)), (.int (1 : Int32))] h0 (fun v h L => ∃ a k, v = some (.ref a) ∧ Fr n0 L ∧ Keep h0 h [] ∧ h0.size ≤ a ∧ Arv Z h a k .byte (1 : Int32) [(.int (c0.toInt8.toInt32))] (.int (0 : Int32))) := by
  refine own_body own_pn_7 ?_
  intro p e s m below meth c s₁ hx hby hml hown hnm hret hlk X0 hZ e0
  replace hown : s.vm.findClass "java/lang/StringUTF16" = some m.cls := hown
  have N0 := Fr.nil n0
  have K0 := Keep.refl h0 []
  refine oS (fun _ k => castTop (own_ef_rm_co_1_1 m a1) k) ?_
  show own_go _ _ _ _ _ _ _ (s₁.setTop (mkF m 0 #[.val (.ref a1), .val (.int (0 : Int32)), .val (.int (1 : Int32)), .unset, .unset, .unset] []))
  refine oS (fun _ k => XS.iloadN X0.here hx rfl (hb hby d7_0) rfl k) ?_
  show own_go _ _ _ _ _ _ _ (s₁.setTop (mkF m 1 #[.val (.ref a1), .val (.int (0 : Int32)), .val (.int (1 : Int32)), .unset, .unset, .unset] [(.int (1 : Int32))]))
  obtain ⟨T205, h205, k205, b205, X205, e205, g205, E205, V205, st205⟩ := own_newP X0 hx hZ (aty := .byte) (ow hw 19 rfl) e0 (g := (mkF m 1 #[.val (.ref a1), .val (.int (0 : Int32)), .val (.int (1 : Int32)), .unset, .unset, .unset] [(.int (1 : Int32))])) rfl (hb hby d7_1) rfl (by decide) (cap := 1) (by decide) (by decide) (by decide) (by decide)
  replace V205 : Arv Z h205 b205 k205 .byte (1 : Int32) [(.int (0 : Int32))] (.int (0 : Int32)) := V205
  have ge_b205 : n0 ≤ b205 := by rw [g205]; exact own_osz O0
  have sz_b205 : h0.size ≤ b205 := by rw [g205]; exact K0.1
  have ne_a1_b205 : a1 ≠ b205 := (fun q => absurd V1.lt (by rw [q, g205]; exact Nat.lt_irrefl _))
  have O205 := O0.ext E205
  have K205 := K0.ext E205
  refine oS st205 ?_
  show own_go _ _ _ _ _ _ _ (T205.setTop (mkF m 3 #[.val (.ref a1), .val (.int (0 : Int32)), .val (.int (1 : Int32)), .unset, .unset, .unset] [(.ref b205)]))
  refine oS (fun _ k => XS.astoreN X205.here hx rfl (hb hby d7_3) rfl rfl (l' := #[.val (.ref a1), .val (.int (0 : Int32)), .val (.int (1 : Int32)), .val (.ref b205), .unset, .unset]) rfl k) ?_
  refine oS (fun _ k => XS.aloadN X205.here hx rfl (hb hby d7_4) rfl rfl k) ?_
  refine oS (fun _ k => XS.iloadN X205.here hx rfl (hb hby d7_5) rfl k) ?_
  refine oS (fun _ k => XS.aloadN X205.here hx rfl (hb hby d7_6) rfl rfl k) ?_
  refine oS (fun _ k => XS.iconst X205.here hx rfl (hb hby d7_7) k) ?_
  show own_go _ _ _ _ _ _ _ (T205.setTop (mkF m 8 #[.val (.ref a1), .val (.int (0 : Int32)), .val (.int (1 : Int32)), .val (.ref b205), .unset, .unset] [(.int (0 : Int32)), (.ref b205), (.int (0 : Int32)), (.ref a1)]))
  refine oS (fun _ k => XS.iloadN X205.here hx rfl (hb hby d7_8) rfl k) ?_
  show own_go _ _ _ _ _ _ _ (T205.setTop (mkF m 9 #[.val (.ref a1), .val (.int (0 : Int32)), .val (.int (1 : Int32)), .val (.ref b205), .unset, .unset] [(.int (1 : Int32)), (.int (0 : Int32)), (.ref b205), (.int (0 : Int32)), (.ref a1)]))
  have f207 := (V1.ext E205)
  obtain ⟨v206, T206, L206, X206, hQ206, st206⟩ := own_callS X205 hx hZ (argsL := [(.ref a1), (.int (0 : Int32)), (.ref b205), (.int (0 : Int32)), (.int (1 : Int32))]) (rest := []) (rm_ci_1 l Z a0 hw a1 b205 k1 k205 c0 h205 n0 O205 f207 V205 ge_b205 ne_a1_b205) hown (ow hw 40 rfl) (ow hw 41 rfl) (ow hw 38 rfl) (ow hw 42 rfl) (by decide) e205 (g := (mkF m 9 #[.val (.ref a1), .val (.int (0 : Int32)), .val (.int (1 : Int32)), .val (.ref b205), .unset, .unset] [(.int (1 : Int32)), (.int (0 : Int32)), (.ref b205), (.int (0 : Int32)), (.ref a1)])) rfl (by rw [hml]; rfl) (lenOf own_pd__28_5bCI_5bBII_29I rfl) rfl (W := 0) (by show 2 * 0 + _ ≤ _; exact Nat.le_of_eq rfl) (hb hby d7_9) (by decide) (by decide) (by decide) (by decide)
  obtain ⟨z206, rfl, Nq206, Kq206, i0_206, i1_206⟩ := hQ206
  have N206 := Fr.app N0 Nq206
  obtain ⟨rfl, Vq206⟩ := i1_206 hl0
  have O206 := O205.keep Kq206 (allS ge_b205 all0)
  have K206 := K205.trans Kq206 (allS (Or.inr sz_b205) all0)
  refine oS st206 ?_
  show own_go _ _ _ _ _ _ _ (T206.setTop (mkF m 12 #[.val (.ref a1), .val (.int (0 : Int32)), .val (.int (1 : Int32)), .val (.ref b205), .unset, .unset] [(.int (1 : Int32))]))
  refine oS (fun _ k => XS.istore X206.here hx rfl (hb hby d7_12) rfl (l' := #[.val (.ref a1), .val (.int (0 : Int32)), .val (.int (1 : Int32)), .val (.ref b205), .val (.int (1 : Int32)), .unset]) rfl k) ?_
  refine oS (fun _ k => XS.iload X206.here hx rfl (hb hby d7_14) rfl k) ?_
  refine oS (fun _ k => XS.iloadN X206.here hx rfl (hb hby d7_16) rfl k) ?_
  show own_go _ _ _ _ _ _ _ (T206.setTop (mkF m 17 #[.val (.ref a1), .val (.int (0 : Int32)), .val (.int (1 : Int32)), .val (.ref b205), .val (.int (1 : Int32)), .unset] [(.int (1 : Int32)), (.int (1 : Int32))]))
  refine oS (fun _ k => XS.icmpYes X206.here hx rfl (pc0 := 17) (pc' := 57) rfl (hb hby d7_17) rfl (by decide) (by decide) (by decide) k) ?_
  refine oS (fun _ k => XS.aloadN X206.here hx rfl (hb hby d7_57) rfl rfl k) ?_
  show own_go _ _ _ _ _ _ _ (T206.setTop (mkF m 58 #[.val (.ref a1), .val (.int (0 : Int32)), .val (.int (1 : Int32)), .val (.ref b205), .val (.int (1 : Int32)), .unset] [(.ref b205)]))
  exact own_retA X206 hx hlk hret rfl rfl (hb hby d7_58) (by decide) (by decide) ⟨_, _, rfl, N206, K206, sz_b205, Vq206⟩
theorem own_ef_rm_nbl_2 (m : MethodId)  : entryFrame m #[(.int (2 : Int32))] 1 = mkF m 0 #[.val (.int (2 : Int32))] [] := by first | (simp [entryFrame, mkF, argsToLocals, Value.category]; done) | rfl
set_option maxRecDepth 65536 in
set_option maxHeartbeats 40000000 in
theorem rm_nbl_2 (l : Launch) (Z : State) (a0 : Array Value) (hw : ∀ d ∈ tables_1, d.before a0 Z = true)  (h0 : Heap) (n0 : Nat) (O0 : Old Z n0 h0)  :
    own_Met l Z (⟨"java/lang/StringUTF16", "newBytesLength", "(I)I"⟩ : MethodName) jdk_52_method_3_code 1 (some .int) [] ({ frames := 0, cells := 0, slots := 0, locals := 0 } : Room) #[(.int (2 : Int32))] h0 (fun v h L => v = some (.int (4 : Int32)) ∧ Fr n0 L ∧ h = h0) := by
  refine own_body own_pn_20 ?_
  intro p e s m below meth c s₁ hx hby hml hown hnm hret hlk X0 hZ e0
  replace hown : s.vm.findClass "java/lang/StringUTF16" = some m.cls := hown
  have N0 := Fr.nil n0
  have K0 := Keep.refl h0 []
  refine oS (fun _ k => castTop (own_ef_rm_nbl_2 m ) k) ?_
  show own_go _ _ _ _ _ _ _ (s₁.setTop (mkF m 0 #[.val (.int (2 : Int32))] []))
  refine oS (fun _ k => XS.iloadN X0.here hx rfl (hb hby d20_0) rfl k) ?_
  show own_go _ _ _ _ _ _ _ (s₁.setTop (mkF m 1 #[.val (.int (2 : Int32))] [(.int (2 : Int32))]))
  refine oS (fun _ k => XS.ifYes X0.here hx rfl (pc0 := 1) (pc' := 12) rfl (hb hby d20_1) rfl (by decide) (by decide) (by decide) k) ?_
  refine oS (fun _ k => XS.iloadN X0.here hx rfl (hb hby d20_12) rfl k) ?_
  show own_go _ _ _ _ _ _ _ (s₁.setTop (mkF m 13 #[.val (.int (2 : Int32))] [(.int (2 : Int32))]))
  refine oS (X0.ldcInt hx hown (mvT hZ (ow hw 90 rfl)) (g := (mkF m 13 #[.val (.int (2 : Int32))] [(.int (2 : Int32))])) rfl (hb hby d20_13)) ?_
  show own_go _ _ _ _ _ _ _ (s₁.setTop (mkF m 15 #[.val (.int (2 : Int32))] [(.int (1073741823 : Int32)), (.int (2 : Int32))]))
  refine oS (fun _ k => XS.icmpYes X0.here hx rfl (pc0 := 15) (pc' := 55) rfl (hb hby d20_15) rfl (by decide) (by decide) (by decide) k) ?_
  refine oS (fun _ k => XS.iloadN X0.here hx rfl (hb hby d20_55) rfl k) ?_
  refine oS (fun _ k => XS.iconst X0.here hx rfl (hb hby d20_56) k) ?_
  refine oS (fun _ k => XS.ishl X0.here hx rfl (hb hby d20_57) rfl k) ?_
  show own_go _ _ _ _ _ _ _ (s₁.setTop (mkF m 58 #[.val (.int (2 : Int32))] [(.int ((2 : Int32) <<< ((1 : Int32) &&& 31)))]))
  rw [(by decide : ((2 : Int32) <<< ((1 : Int32) &&& 31)) = (4 : Int32))]
  show own_go _ _ _ _ _ _ _ (s₁.setTop (mkF m 58 #[.val (.int (2 : Int32))] [(.int (4 : Int32))]))
  exact own_retI X0 hx hlk hret (hb hby d20_58) (by decide) (by decide) (⟨rfl, N0, e0⟩)
theorem own_ef_rm_nbf_2 (m : MethodId)  : entryFrame m #[(.int (2 : Int32))] 1 = mkF m 0 #[.val (.int (2 : Int32))] [] := by first | (simp [entryFrame, mkF, argsToLocals, Value.category]; done) | rfl
set_option maxRecDepth 65536 in
set_option maxHeartbeats 40000000 in
theorem rm_nbf_2 (l : Launch) (Z : State) (a0 : Array Value) (hw : ∀ d ∈ tables_1, d.before a0 Z = true)  (h0 : Heap) (n0 : Nat) (O0 : Old Z n0 h0)  :
    own_Met l Z (⟨"java/lang/StringUTF16", "newBytesFor", "(I)[B"⟩ : MethodName) jdk_52_method_2_code 1 (some (.array .byte)) [] ({ frames := 1, cells := 1, slots := 4, locals := 16 } : Room) #[(.int (2 : Int32))] h0 (fun v h L => ∃ a k, v = some (.ref a) ∧ Fr n0 L ∧ Keep h0 h [] ∧ h0.size ≤ a ∧ Arv Z h a k .byte (4 : Int32) [(.int (0 : Int32)), (.int (0 : Int32)), (.int (0 : Int32)), (.int (0 : Int32))] (.int (0 : Int32))) := by
  refine own_body own_pn_19 ?_
  intro p e s m below meth c s₁ hx hby hml hown hnm hret hlk X0 hZ e0
  replace hown : s.vm.findClass "java/lang/StringUTF16" = some m.cls := hown
  have N0 := Fr.nil n0
  have K0 := Keep.refl h0 []
  refine oS (fun _ k => castTop (own_ef_rm_nbf_2 m ) k) ?_
  show own_go _ _ _ _ _ _ _ (s₁.setTop (mkF m 0 #[.val (.int (2 : Int32))] []))
  refine oS (fun _ k => XS.iloadN X0.here hx rfl (hb hby d19_0) rfl k) ?_
  show own_go _ _ _ _ _ _ _ (s₁.setTop (mkF m 1 #[.val (.int (2 : Int32))] [(.int (2 : Int32))]))
  obtain ⟨v208, T208, L208, X208, hQ208, st208⟩ := own_callS X0 hx hZ (argsL := [(.int (2 : Int32))]) (rest := []) (rm_nbl_2 l Z a0 hw h0 n0 O0) hown (ow hw 87 rfl) (ow hw 88 rfl) (ow hw 38 rfl) (ow hw 89 rfl) (by decide) e0 (g := (mkF m 1 #[.val (.int (2 : Int32))] [(.int (2 : Int32))])) rfl (by rw [hml]; rfl) (lenOf own_pd__28I_29I rfl) rfl (W := 0) (by show 2 * 0 + _ ≤ _; exact Nat.le_of_eq rfl) (hb hby d19_1) (by decide) (by decide) (by decide) (by decide)
  obtain ⟨rfl, Nq208, eq208⟩ := hQ208
  have N208 := Fr.app N0 Nq208
  refine oS st208 ?_
  show own_go _ _ _ _ _ _ _ (T208.setTop (mkF m 4 #[.val (.int (2 : Int32))] [(.int (4 : Int32))]))
  obtain ⟨T209, h209, k209, b209, X209, e209, g209, E209, V209, st209⟩ := own_newP X208 hx hZ (aty := .byte) (ow hw 19 rfl) eq208 (g := (mkF m 4 #[.val (.int (2 : Int32))] [(.int (4 : Int32))])) rfl (hb hby d19_4) rfl (by decide) (cap := 4) (by decide) (by decide) (by decide) (by decide)
  replace V209 : Arv Z h209 b209 k209 .byte (4 : Int32) [(.int (0 : Int32)), (.int (0 : Int32)), (.int (0 : Int32)), (.int (0 : Int32))] (.int (0 : Int32)) := V209
  have ge_b209 : n0 ≤ b209 := by rw [g209]; exact own_osz O0
  have sz_b209 : h0.size ≤ b209 := by rw [g209]; exact K0.1
  have O209 := O0.ext E209
  have K209 := K0.ext E209
  refine oS st209 ?_
  show own_go _ _ _ _ _ _ _ (T209.setTop (mkF m 6 #[.val (.int (2 : Int32))] [(.ref b209)]))
  exact own_retA X209 hx hlk hret rfl rfl (hb hby d19_6) (by decide) (by decide) (by rw [e209]; exact ⟨_, _, rfl, N208, K209, sz_b209, V209⟩)
theorem own_ef_rm_pc_2_0 (m : MethodId) (a1 : Addr) (y : Int32) : entryFrame m #[(.ref a1), (.int (0 : Int32)), (.int y)] 3 = mkF m 0 #[.val (.ref a1), .val (.int (0 : Int32)), .val (.int y)] [] := by first | (simp [entryFrame, mkF, argsToLocals, Value.category]; done) | rfl
set_option maxRecDepth 65536 in
set_option maxHeartbeats 40000000 in
theorem rm_pc_2_0 (l : Launch) (Z : State) (a0 : Array Value) (hw : ∀ d ∈ tables_1, d.before a0 Z = true) (a1 : Addr) (k1 : ClassId) (y x0 x1 x2 x3 : Int32) (zC : Int32) (vS : Value) (h0 : Heap) (n0 : Nat) (O0 : Old Z n0 h0) (hS : own_S Z zC vS) (ge_a1 : n0 ≤ a1) (V1 : Arv Z h0 a1 k1 .byte (4 : Int32) [(.int x0), (.int x1), (.int x2), (.int x3)] (.int (0 : Int32))) :
    own_Met l Z (⟨"java/lang/StringUTF16", "putChar", "([BII)V"⟩ : MethodName) jdk_52_method_4_code 3 none [] ({ frames := 0, cells := 0, slots := 0, locals := 0 } : Room) #[(.ref a1), (.int (0 : Int32)), (.int y)] h0 (fun v h L => v = none ∧ Fr n0 L ∧ Keep h0 h [a1] ∧ Arv Z h a1 k1 .byte (4 : Int32) [(.int (y.toInt8.toInt32)), (.int ((y >>> ((8 : Int32) &&& 31)).toInt8.toInt32)), (.int x2), (.int x3)] (.int (0 : Int32))) := by
  refine own_body own_pn_21 ?_
  intro p e s m below meth c s₁ hx hby hml hown hnm hret hlk X0 hZ e0
  replace hown : s.vm.findClass "java/lang/StringUTF16" = some m.cls := hown
  have N0 := Fr.nil n0
  have K0 := Keep.refl h0 [a1]
  refine oS (fun _ k => castTop (own_ef_rm_pc_2_0 m a1 y) k) ?_
  show own_go _ _ _ _ _ _ _ (s₁.setTop (mkF m 0 #[.val (.ref a1), .val (.int (0 : Int32)), .val (.int y)] []))
  obtain ⟨T210, X210, e210, st210⟩ := getS2 X0 hx hZ hown (host := "") (Or.inl (ow hw 94 rfl)) Via.refl e0 (hS.2.2.2.2.1.ext O0.2) (g := (mkF m 0 #[.val (.ref a1), .val (.int (0 : Int32)), .val (.int y)] [])) rfl (hb hby d21_0)
  refine oS st210 ?_
  show own_go _ _ _ _ _ _ _ (T210.setTop (mkF m 3 #[.val (.ref a1), .val (.int (0 : Int32)), .val (.int y)] [(.int (1 : Int32))]))
  refine oS (fun _ k => XS.ifYes X210.here hx rfl (pc0 := 3) (pc' := 28) rfl (hb hby d21_3) rfl (by decide) (by decide) (by decide) k) ?_
  refine oS (fun _ k => XS.iloadN X210.here hx rfl (hb hby d21_28) rfl k) ?_
  refine oS (fun _ k => XS.iconst X210.here hx rfl (hb hby d21_29) k) ?_
  refine oS (fun _ k => XS.ishl X210.here hx rfl (hb hby d21_30) rfl k) ?_
  show own_go _ _ _ _ _ _ _ (T210.setTop (mkF m 31 #[.val (.ref a1), .val (.int (0 : Int32)), .val (.int y)] [(.int ((0 : Int32) <<< ((1 : Int32) &&& 31)))]))
  rw [(by decide : ((0 : Int32) <<< ((1 : Int32) &&& 31)) = (0 : Int32))]
  show own_go _ _ _ _ _ _ _ (T210.setTop (mkF m 31 #[.val (.ref a1), .val (.int (0 : Int32)), .val (.int y)] [(.int (0 : Int32))]))
  refine oS (fun _ k => XS.istoreN X210.here hx rfl (hb hby d21_31) rfl (l' := #[.val (.ref a1), .val (.int (0 : Int32)), .val (.int y)]) rfl k) ?_
  refine oS (fun _ k => XS.aloadN X210.here hx rfl (hb hby d21_32) rfl rfl k) ?_
  refine oS (fun _ k => XS.iloadN X210.here hx rfl (hb hby d21_33) rfl k) ?_
  refine oS (fun _ k => XS.iinc X210.here hx rfl (hb hby d21_34) rfl (l' := #[.val (.ref a1), .val (.int (1 : Int32)), .val (.int y)]) rfl k) ?_
  refine oS (fun _ k => XS.iloadN X210.here hx rfl (hb hby d21_37) rfl k) ?_
  show own_go _ _ _ _ _ _ _ (T210.setTop (mkF m 38 #[.val (.ref a1), .val (.int (1 : Int32)), .val (.int y)] [(.int y), (.int (0 : Int32)), (.ref a1)]))
  obtain ⟨T211, X211, e211, st211⟩ := getS2 X210 hx hZ hown (host := "") (Or.inl (ow hw 95 rfl)) Via.refl e210 (hS.2.2.2.2.2.1.ext O0.2) (g := (mkF m 38 #[.val (.ref a1), .val (.int (1 : Int32)), .val (.int y)] [(.int y), (.int (0 : Int32)), (.ref a1)])) rfl (hb hby d21_38)
  refine oS st211 ?_
  show own_go _ _ _ _ _ _ _ (T211.setTop (mkF m 41 #[.val (.ref a1), .val (.int (1 : Int32)), .val (.int y)] [(.int (0 : Int32)), (.int y), (.int (0 : Int32)), (.ref a1)]))
  refine oS (fun _ k => XS.ishr X211.here hx rfl (hb hby d21_41) rfl k) ?_
  show own_go _ _ _ _ _ _ _ (T211.setTop (mkF m 42 #[.val (.ref a1), .val (.int (1 : Int32)), .val (.int y)] [(.int (y >>> ((0 : Int32) &&& 31))), (.int (0 : Int32)), (.ref a1)]))
  rw [(StrChars.shr0 y)]
  show own_go _ _ _ _ _ _ _ (T211.setTop (mkF m 42 #[.val (.ref a1), .val (.int (1 : Int32)), .val (.int y)] [(.int y), (.int (0 : Int32)), (.ref a1)]))
  refine oS (fun _ k => XS.i2b X211.here hx rfl (hb hby d21_42) rfl k) ?_
  show own_go _ _ _ _ _ _ _ (T211.setTop (mkF m 43 #[.val (.ref a1), .val (.int (1 : Int32)), .val (.int y)] [(.int (y.toInt8.toInt32)), (.int (0 : Int32)), (.ref a1)]))
  obtain ⟨T212, h212, X212, e212, W212, V212, st212⟩ := own_putB X211 hx hZ e211 V1 (y := (y.toInt8.toInt32)) (own_nb8 _) (j := (0 : Int32)) (by decide) 0 (by decide) (by show 0 < 4; decide) (g := (mkF m 43 #[.val (.ref a1), .val (.int (1 : Int32)), .val (.int y)] [(.int (y.toInt8.toInt32)), (.int (0 : Int32)), (.ref a1)])) rfl rfl (hb hby d21_43)
  have N212 := Fr.snoc X212 N0 ge_a1
  replace V212 : Arv Z h212 a1 k1 .byte (4 : Int32) [(.int (y.toInt8.toInt32)), (.int x1), (.int x2), (.int x3)] (.int (0 : Int32)) := V212
  have O213 := O0.wr W212 ge_a1
  have K213 := K0.wr W212 (Or.inl (List.mem_of_getElem? (i := 0) rfl))
  refine oS st212 ?_
  show own_go _ _ _ _ _ _ _ (T212.setTop (mkF m 44 #[.val (.ref a1), .val (.int (1 : Int32)), .val (.int y)] []))
  refine oS (fun _ k => XS.aloadN X212.here hx rfl (hb hby d21_44) rfl rfl k) ?_
  refine oS (fun _ k => XS.iloadN X212.here hx rfl (hb hby d21_45) rfl k) ?_
  refine oS (fun _ k => XS.iloadN X212.here hx rfl (hb hby d21_46) rfl k) ?_
  show own_go _ _ _ _ _ _ _ (T212.setTop (mkF m 47 #[.val (.ref a1), .val (.int (1 : Int32)), .val (.int y)] [(.int y), (.int (1 : Int32)), (.ref a1)]))
  obtain ⟨T214, X214, e214, st214⟩ := getS2 X212 hx hZ hown (host := "") (Or.inl (ow hw 96 rfl)) Via.refl e212 (hS.2.2.2.2.2.2.ext O213.2) (g := (mkF m 47 #[.val (.ref a1), .val (.int (1 : Int32)), .val (.int y)] [(.int y), (.int (1 : Int32)), (.ref a1)])) rfl (hb hby d21_47)
  refine oS st214 ?_
  show own_go _ _ _ _ _ _ _ (T214.setTop (mkF m 50 #[.val (.ref a1), .val (.int (1 : Int32)), .val (.int y)] [(.int (8 : Int32)), (.int y), (.int (1 : Int32)), (.ref a1)]))
  refine oS (fun _ k => XS.ishr X214.here hx rfl (hb hby d21_50) rfl k) ?_
  refine oS (fun _ k => XS.i2b X214.here hx rfl (hb hby d21_51) rfl k) ?_
  show own_go _ _ _ _ _ _ _ (T214.setTop (mkF m 52 #[.val (.ref a1), .val (.int (1 : Int32)), .val (.int y)] [(.int ((y >>> ((8 : Int32) &&& 31)).toInt8.toInt32)), (.int (1 : Int32)), (.ref a1)]))
  obtain ⟨T215, h215, X215, e215, W215, V215, st215⟩ := own_putB X214 hx hZ e214 V212 (y := ((y >>> ((8 : Int32) &&& 31)).toInt8.toInt32)) (own_nb8 _) (j := (1 : Int32)) (by decide) 1 (by decide) (by show 1 < 4; decide) (g := (mkF m 52 #[.val (.ref a1), .val (.int (1 : Int32)), .val (.int y)] [(.int ((y >>> ((8 : Int32) &&& 31)).toInt8.toInt32)), (.int (1 : Int32)), (.ref a1)])) rfl rfl (hb hby d21_52)
  have N215 := Fr.snoc X215 N212 ge_a1
  replace V215 : Arv Z h215 a1 k1 .byte (4 : Int32) [(.int (y.toInt8.toInt32)), (.int ((y >>> ((8 : Int32) &&& 31)).toInt8.toInt32)), (.int x2), (.int x3)] (.int (0 : Int32)) := V215
  have O216 := O213.wr W215 ge_a1
  have K216 := K213.wr W215 (Or.inl (List.mem_of_getElem? (i := 0) rfl))
  refine oS st215 ?_
  show own_go _ _ _ _ _ _ _ (T215.setTop (mkF m 53 #[.val (.ref a1), .val (.int (1 : Int32)), .val (.int y)] []))
  exact own_ret0 X215 hx hlk hret (hb hby d21_53) (by decide) (by decide) (by rw [e215]; exact ⟨rfl, N215, K216, V215⟩)
theorem own_ef_rm_pc_2_1 (m : MethodId) (a1 : Addr) (y : Int32) : entryFrame m #[(.ref a1), (.int (1 : Int32)), (.int y)] 3 = mkF m 0 #[.val (.ref a1), .val (.int (1 : Int32)), .val (.int y)] [] := by first | (simp [entryFrame, mkF, argsToLocals, Value.category]; done) | rfl
set_option maxRecDepth 65536 in
set_option maxHeartbeats 40000000 in
theorem rm_pc_2_1 (l : Launch) (Z : State) (a0 : Array Value) (hw : ∀ d ∈ tables_1, d.before a0 Z = true) (a1 : Addr) (k1 : ClassId) (y x0 x1 x2 x3 : Int32) (zC : Int32) (vS : Value) (h0 : Heap) (n0 : Nat) (O0 : Old Z n0 h0) (hS : own_S Z zC vS) (ge_a1 : n0 ≤ a1) (V1 : Arv Z h0 a1 k1 .byte (4 : Int32) [(.int x0), (.int x1), (.int x2), (.int x3)] (.int (0 : Int32))) :
    own_Met l Z (⟨"java/lang/StringUTF16", "putChar", "([BII)V"⟩ : MethodName) jdk_52_method_4_code 3 none [] ({ frames := 0, cells := 0, slots := 0, locals := 0 } : Room) #[(.ref a1), (.int (1 : Int32)), (.int y)] h0 (fun v h L => v = none ∧ Fr n0 L ∧ Keep h0 h [a1] ∧ Arv Z h a1 k1 .byte (4 : Int32) [(.int x0), (.int x1), (.int (y.toInt8.toInt32)), (.int ((y >>> ((8 : Int32) &&& 31)).toInt8.toInt32))] (.int (0 : Int32))) := by
  refine own_body own_pn_21 ?_
  intro p e s m below meth c s₁ hx hby hml hown hnm hret hlk X0 hZ e0
  replace hown : s.vm.findClass "java/lang/StringUTF16" = some m.cls := hown
  have N0 := Fr.nil n0
  have K0 := Keep.refl h0 [a1]
  refine oS (fun _ k => castTop (own_ef_rm_pc_2_1 m a1 y) k) ?_
  show own_go _ _ _ _ _ _ _ (s₁.setTop (mkF m 0 #[.val (.ref a1), .val (.int (1 : Int32)), .val (.int y)] []))
  obtain ⟨T217, X217, e217, st217⟩ := getS2 X0 hx hZ hown (host := "") (Or.inl (ow hw 94 rfl)) Via.refl e0 (hS.2.2.2.2.1.ext O0.2) (g := (mkF m 0 #[.val (.ref a1), .val (.int (1 : Int32)), .val (.int y)] [])) rfl (hb hby d21_0)
  refine oS st217 ?_
  show own_go _ _ _ _ _ _ _ (T217.setTop (mkF m 3 #[.val (.ref a1), .val (.int (1 : Int32)), .val (.int y)] [(.int (1 : Int32))]))
  refine oS (fun _ k => XS.ifYes X217.here hx rfl (pc0 := 3) (pc' := 28) rfl (hb hby d21_3) rfl (by decide) (by decide) (by decide) k) ?_
  refine oS (fun _ k => XS.iloadN X217.here hx rfl (hb hby d21_28) rfl k) ?_
  refine oS (fun _ k => XS.iconst X217.here hx rfl (hb hby d21_29) k) ?_
  refine oS (fun _ k => XS.ishl X217.here hx rfl (hb hby d21_30) rfl k) ?_
  show own_go _ _ _ _ _ _ _ (T217.setTop (mkF m 31 #[.val (.ref a1), .val (.int (1 : Int32)), .val (.int y)] [(.int ((1 : Int32) <<< ((1 : Int32) &&& 31)))]))
  rw [(by decide : ((1 : Int32) <<< ((1 : Int32) &&& 31)) = (2 : Int32))]
  show own_go _ _ _ _ _ _ _ (T217.setTop (mkF m 31 #[.val (.ref a1), .val (.int (1 : Int32)), .val (.int y)] [(.int (2 : Int32))]))
  refine oS (fun _ k => XS.istoreN X217.here hx rfl (hb hby d21_31) rfl (l' := #[.val (.ref a1), .val (.int (2 : Int32)), .val (.int y)]) rfl k) ?_
  refine oS (fun _ k => XS.aloadN X217.here hx rfl (hb hby d21_32) rfl rfl k) ?_
  refine oS (fun _ k => XS.iloadN X217.here hx rfl (hb hby d21_33) rfl k) ?_
  refine oS (fun _ k => XS.iinc X217.here hx rfl (hb hby d21_34) rfl (l' := #[.val (.ref a1), .val (.int (3 : Int32)), .val (.int y)]) rfl k) ?_
  refine oS (fun _ k => XS.iloadN X217.here hx rfl (hb hby d21_37) rfl k) ?_
  show own_go _ _ _ _ _ _ _ (T217.setTop (mkF m 38 #[.val (.ref a1), .val (.int (3 : Int32)), .val (.int y)] [(.int y), (.int (2 : Int32)), (.ref a1)]))
  obtain ⟨T218, X218, e218, st218⟩ := getS2 X217 hx hZ hown (host := "") (Or.inl (ow hw 95 rfl)) Via.refl e217 (hS.2.2.2.2.2.1.ext O0.2) (g := (mkF m 38 #[.val (.ref a1), .val (.int (3 : Int32)), .val (.int y)] [(.int y), (.int (2 : Int32)), (.ref a1)])) rfl (hb hby d21_38)
  refine oS st218 ?_
  show own_go _ _ _ _ _ _ _ (T218.setTop (mkF m 41 #[.val (.ref a1), .val (.int (3 : Int32)), .val (.int y)] [(.int (0 : Int32)), (.int y), (.int (2 : Int32)), (.ref a1)]))
  refine oS (fun _ k => XS.ishr X218.here hx rfl (hb hby d21_41) rfl k) ?_
  show own_go _ _ _ _ _ _ _ (T218.setTop (mkF m 42 #[.val (.ref a1), .val (.int (3 : Int32)), .val (.int y)] [(.int (y >>> ((0 : Int32) &&& 31))), (.int (2 : Int32)), (.ref a1)]))
  rw [(StrChars.shr0 y)]
  show own_go _ _ _ _ _ _ _ (T218.setTop (mkF m 42 #[.val (.ref a1), .val (.int (3 : Int32)), .val (.int y)] [(.int y), (.int (2 : Int32)), (.ref a1)]))
  refine oS (fun _ k => XS.i2b X218.here hx rfl (hb hby d21_42) rfl k) ?_
  show own_go _ _ _ _ _ _ _ (T218.setTop (mkF m 43 #[.val (.ref a1), .val (.int (3 : Int32)), .val (.int y)] [(.int (y.toInt8.toInt32)), (.int (2 : Int32)), (.ref a1)]))
  obtain ⟨T219, h219, X219, e219, W219, V219, st219⟩ := own_putB X218 hx hZ e218 V1 (y := (y.toInt8.toInt32)) (own_nb8 _) (j := (2 : Int32)) (by decide) 2 (by decide) (by show 2 < 4; decide) (g := (mkF m 43 #[.val (.ref a1), .val (.int (3 : Int32)), .val (.int y)] [(.int (y.toInt8.toInt32)), (.int (2 : Int32)), (.ref a1)])) rfl rfl (hb hby d21_43)
  have N219 := Fr.snoc X219 N0 ge_a1
  replace V219 : Arv Z h219 a1 k1 .byte (4 : Int32) [(.int x0), (.int x1), (.int (y.toInt8.toInt32)), (.int x3)] (.int (0 : Int32)) := V219
  have O220 := O0.wr W219 ge_a1
  have K220 := K0.wr W219 (Or.inl (List.mem_of_getElem? (i := 0) rfl))
  refine oS st219 ?_
  show own_go _ _ _ _ _ _ _ (T219.setTop (mkF m 44 #[.val (.ref a1), .val (.int (3 : Int32)), .val (.int y)] []))
  refine oS (fun _ k => XS.aloadN X219.here hx rfl (hb hby d21_44) rfl rfl k) ?_
  refine oS (fun _ k => XS.iloadN X219.here hx rfl (hb hby d21_45) rfl k) ?_
  refine oS (fun _ k => XS.iloadN X219.here hx rfl (hb hby d21_46) rfl k) ?_
  show own_go _ _ _ _ _ _ _ (T219.setTop (mkF m 47 #[.val (.ref a1), .val (.int (3 : Int32)), .val (.int y)] [(.int y), (.int (3 : Int32)), (.ref a1)]))
  obtain ⟨T221, X221, e221, st221⟩ := getS2 X219 hx hZ hown (host := "") (Or.inl (ow hw 96 rfl)) Via.refl e219 (hS.2.2.2.2.2.2.ext O220.2) (g := (mkF m 47 #[.val (.ref a1), .val (.int (3 : Int32)), .val (.int y)] [(.int y), (.int (3 : Int32)), (.ref a1)])) rfl (hb hby d21_47)
  refine oS st221 ?_
  show own_go _ _ _ _ _ _ _ (T221.setTop (mkF m 50 #[.val (.ref a1), .val (.int (3 : Int32)), .val (.int y)] [(.int (8 : Int32)), (.int y), (.int (3 : Int32)), (.ref a1)]))
  refine oS (fun _ k => XS.ishr X221.here hx rfl (hb hby d21_50) rfl k) ?_
  refine oS (fun _ k => XS.i2b X221.here hx rfl (hb hby d21_51) rfl k) ?_
  show own_go _ _ _ _ _ _ _ (T221.setTop (mkF m 52 #[.val (.ref a1), .val (.int (3 : Int32)), .val (.int y)] [(.int ((y >>> ((8 : Int32) &&& 31)).toInt8.toInt32)), (.int (3 : Int32)), (.ref a1)]))
  obtain ⟨T222, h222, X222, e222, W222, V222, st222⟩ := own_putB X221 hx hZ e221 V219 (y := ((y >>> ((8 : Int32) &&& 31)).toInt8.toInt32)) (own_nb8 _) (j := (3 : Int32)) (by decide) 3 (by decide) (by show 3 < 4; decide) (g := (mkF m 52 #[.val (.ref a1), .val (.int (3 : Int32)), .val (.int y)] [(.int ((y >>> ((8 : Int32) &&& 31)).toInt8.toInt32)), (.int (3 : Int32)), (.ref a1)])) rfl rfl (hb hby d21_52)
  have N222 := Fr.snoc X222 N219 ge_a1
  replace V222 : Arv Z h222 a1 k1 .byte (4 : Int32) [(.int x0), (.int x1), (.int (y.toInt8.toInt32)), (.int ((y >>> ((8 : Int32) &&& 31)).toInt8.toInt32))] (.int (0 : Int32)) := V222
  have O223 := O220.wr W222 ge_a1
  have K223 := K220.wr W222 (Or.inl (List.mem_of_getElem? (i := 0) rfl))
  refine oS st222 ?_
  show own_go _ _ _ _ _ _ _ (T222.setTop (mkF m 53 #[.val (.ref a1), .val (.int (3 : Int32)), .val (.int y)] []))
  exact own_ret0 X222 hx hlk hret (hb hby d21_53) (by decide) (by decide) (by rw [e222]; exact ⟨rfl, N222, K223, V222⟩)
theorem own_ef_rm_tb_2 (m : MethodId) (a1 : Addr) : entryFrame m #[(.ref a1), (.int (0 : Int32)), (.int (2 : Int32))] 5 = mkF m 0 #[.val (.ref a1), .val (.int (0 : Int32)), .val (.int (2 : Int32)), .unset, .unset] [] := by first | (simp [entryFrame, mkF, argsToLocals, Value.category]; done) | rfl
set_option maxRecDepth 65536 in
set_option maxHeartbeats 40000000 in
theorem rm_tb_2 (l : Launch) (Z : State) (a0 : Array Value) (hw : ∀ d ∈ tables_1, d.before a0 Z = true) (a1 : Addr) (k1 : ClassId) (c0 c1 : Int32) (zC : Int32) (vS : Value) (h0 : Heap) (n0 : Nat) (O0 : Old Z n0 h0) (hS : own_S Z zC vS) (V1 : Arv Z h0 a1 k1 .char (2 : Int32) [(.int c0), (.int c1)] (.int (0 : Int32))) :
    own_Met l Z (⟨"java/lang/StringUTF16", "toBytes", "([CII)[B"⟩ : MethodName) jdk_52_method_14_code 5 (some (.array .byte)) [] ({ frames := 2, cells := 1, slots := 4, locals := 30 } : Room) #[(.ref a1), (.int (0 : Int32)), (.int (2 : Int32))] h0 (fun v h L => ∃ a k, v = some (.ref a) ∧ Fr n0 L ∧ Keep h0 h [] ∧ h0.size ≤ a ∧ Arv Z h a k .byte (4 : Int32) [(.int (c0.toInt8.toInt32)), (.int ((c0 >>> ((8 : Int32) &&& 31)).toInt8.toInt32)), (.int (c1.toInt8.toInt32)), (.int ((c1 >>> ((8 : Int32) &&& 31)).toInt8.toInt32))] (.int (0 : Int32))) := by
  refine own_body own_pn_18 ?_
  intro p e s m below meth c s₁ hx hby hml hown hnm hret hlk X0 hZ e0
  replace hown : s.vm.findClass "java/lang/StringUTF16" = some m.cls := hown
  have N0 := Fr.nil n0
  have K0 := Keep.refl h0 []
  refine oS (fun _ k => castTop (own_ef_rm_tb_2 m a1) k) ?_
  show own_go _ _ _ _ _ _ _ (s₁.setTop (mkF m 0 #[.val (.ref a1), .val (.int (0 : Int32)), .val (.int (2 : Int32)), .unset, .unset] []))
  refine oS (fun _ k => XS.iloadN X0.here hx rfl (hb hby d18_0) rfl k) ?_
  show own_go _ _ _ _ _ _ _ (s₁.setTop (mkF m 1 #[.val (.ref a1), .val (.int (0 : Int32)), .val (.int (2 : Int32)), .unset, .unset] [(.int (2 : Int32))]))
  obtain ⟨v224, T224, L224, X224, hQ224, st224⟩ := own_callS X0 hx hZ (argsL := [(.int (2 : Int32))]) (rest := []) (rm_nbf_2 l Z a0 hw h0 n0 O0) hown (ow hw 84 rfl) (ow hw 85 rfl) (ow hw 38 rfl) (ow hw 86 rfl) (by decide) e0 (g := (mkF m 1 #[.val (.ref a1), .val (.int (0 : Int32)), .val (.int (2 : Int32)), .unset, .unset] [(.int (2 : Int32))])) rfl (by rw [hml]; rfl) (lenOf own_pd__28I_29_5bB rfl) rfl (W := 0) (by show 2 * 0 + _ ≤ _; exact Nat.le_of_eq rfl) (hb hby d18_1) (by decide) (by decide) (by decide) (by decide)
  obtain ⟨r224, kr224, rfl, Nq224, Kq224, sz224, Vq224⟩ := hQ224
  have N224 := Fr.app N0 Nq224
  have ne_a1_r224 : a1 ≠ r224 := (Nat.ne_of_lt (Nat.lt_of_lt_of_le V1.lt sz224))
  have O224 := O0.keep Kq224 all0
  have K224 := K0.trans Kq224 all0
  refine oS st224 ?_
  show own_go _ _ _ _ _ _ _ (T224.setTop (mkF m 4 #[.val (.ref a1), .val (.int (0 : Int32)), .val (.int (2 : Int32)), .unset, .unset] [(.ref r224)]))
  refine oS (fun _ k => XS.astoreN X224.here hx rfl (hb hby d18_4) rfl rfl (l' := #[.val (.ref a1), .val (.int (0 : Int32)), .val (.int (2 : Int32)), .val (.ref r224), .unset]) rfl k) ?_
  refine oS (fun _ k => XS.iconst X224.here hx rfl (hb hby d18_5) k) ?_
  refine oS (fun _ k => XS.istore X224.here hx rfl (hb hby d18_6) rfl (l' := #[.val (.ref a1), .val (.int (0 : Int32)), .val (.int (2 : Int32)), .val (.ref r224), .val (.int (0 : Int32))]) rfl k) ?_
  refine oS (fun _ k => XS.iload X224.here hx rfl (hb hby d18_8) rfl k) ?_
  refine oS (fun _ k => XS.iloadN X224.here hx rfl (hb hby d18_10) rfl k) ?_
  show own_go _ _ _ _ _ _ _ (T224.setTop (mkF m 11 #[.val (.ref a1), .val (.int (0 : Int32)), .val (.int (2 : Int32)), .val (.ref r224), .val (.int (0 : Int32))] [(.int (2 : Int32)), (.int (0 : Int32))]))
  refine oS (fun _ k => XS.icmpNo X224.here hx rfl (hb hby d18_11) rfl (by decide) k) ?_
  refine oS (fun _ k => XS.aloadN X224.here hx rfl (hb hby d18_14) rfl rfl k) ?_
  refine oS (fun _ k => XS.iload X224.here hx rfl (hb hby d18_15) rfl k) ?_
  refine oS (fun _ k => XS.aloadN X224.here hx rfl (hb hby d18_17) rfl rfl k) ?_
  refine oS (fun _ k => XS.iloadN X224.here hx rfl (hb hby d18_18) rfl k) ?_
  show own_go _ _ _ _ _ _ _ (T224.setTop (mkF m 19 #[.val (.ref a1), .val (.int (0 : Int32)), .val (.int (2 : Int32)), .val (.ref r224), .val (.int (0 : Int32))] [(.int (0 : Int32)), (.ref a1), (.int (0 : Int32)), (.ref r224)]))
  have f225 := (V1.keep Kq224 nin0)
  refine oS (own_getC X224 hx hZ rfl f225 (j := (0 : Int32)) (by decide) (v := (.int c0)) rfl (g := (mkF m 19 #[.val (.ref a1), .val (.int (0 : Int32)), .val (.int (2 : Int32)), .val (.ref r224), .val (.int (0 : Int32))] [(.int (0 : Int32)), (.ref a1), (.int (0 : Int32)), (.ref r224)])) rfl rfl (hb hby d18_19)) ?_
  show own_go _ _ _ _ _ _ _ (T224.setTop (mkF m 20 #[.val (.ref a1), .val (.int (0 : Int32)), .val (.int (2 : Int32)), .val (.ref r224), .val (.int (0 : Int32))] [(.int c0), (.int (0 : Int32)), (.ref r224)]))
  obtain ⟨v226, T226, L226, X226, hQ226, st226⟩ := own_callS X224 hx hZ (argsL := [(.ref r224), (.int (0 : Int32)), (.int c0)]) (rest := []) (rm_pc_2_0 l Z a0 hw r224 kr224 c0 (0 : Int32) (0 : Int32) (0 : Int32) (0 : Int32) zC vS T224.heap n0 O224 hS (Nat.le_trans (own_osz O0) sz224) Vq224) hown (ow hw 91 rfl) (ow hw 92 rfl) (ow hw 38 rfl) (ow hw 93 rfl) (by decide) rfl (g := (mkF m 20 #[.val (.ref a1), .val (.int (0 : Int32)), .val (.int (2 : Int32)), .val (.ref r224), .val (.int (0 : Int32))] [(.int c0), (.int (0 : Int32)), (.ref r224)])) rfl (by rw [hml]; rfl) (lenOf own_pd__28_5bBII_29V rfl) rfl (W := 0) (by show 2 * 0 + _ ≤ _; exact Nat.le_of_eq rfl) (hb hby d18_20) (by decide) (by decide) (by decide) (by decide)
  obtain ⟨rfl, Nq226, Kq226, Vq226⟩ := hQ226
  have N226 := Fr.app N224 Nq226
  have O226 := O224.keep Kq226 (allS (Nat.le_trans (own_osz O0) sz224) all0)
  have K226 := K224.trans Kq226 (allS (Or.inr (Nat.le_trans K0.1 sz224)) all0)
  refine oS st226 ?_
  show own_go _ _ _ _ _ _ _ (T226.setTop (mkF m 23 #[.val (.ref a1), .val (.int (0 : Int32)), .val (.int (2 : Int32)), .val (.ref r224), .val (.int (0 : Int32))] []))
  refine oS (fun _ k => XS.iinc X226.here hx rfl (hb hby d18_23) rfl (l' := #[.val (.ref a1), .val (.int (1 : Int32)), .val (.int (2 : Int32)), .val (.ref r224), .val (.int (0 : Int32))]) rfl k) ?_
  refine oS (fun _ k => XS.iinc X226.here hx rfl (hb hby d18_26) rfl (l' := #[.val (.ref a1), .val (.int (1 : Int32)), .val (.int (2 : Int32)), .val (.ref r224), .val (.int (1 : Int32))]) rfl k) ?_
  refine oS (fun _ k => XS.goto X226.here hx rfl (pc0 := 29) (pc' := 8) rfl (hb hby d18_29) (by decide) (by decide) k) ?_
  refine oS (fun _ k => XS.iload X226.here hx rfl (hb hby d18_8) rfl k) ?_
  refine oS (fun _ k => XS.iloadN X226.here hx rfl (hb hby d18_10) rfl k) ?_
  show own_go _ _ _ _ _ _ _ (T226.setTop (mkF m 11 #[.val (.ref a1), .val (.int (1 : Int32)), .val (.int (2 : Int32)), .val (.ref r224), .val (.int (1 : Int32))] [(.int (2 : Int32)), (.int (1 : Int32))]))
  refine oS (fun _ k => XS.icmpNo X226.here hx rfl (hb hby d18_11) rfl (by decide) k) ?_
  refine oS (fun _ k => XS.aloadN X226.here hx rfl (hb hby d18_14) rfl rfl k) ?_
  refine oS (fun _ k => XS.iload X226.here hx rfl (hb hby d18_15) rfl k) ?_
  refine oS (fun _ k => XS.aloadN X226.here hx rfl (hb hby d18_17) rfl rfl k) ?_
  refine oS (fun _ k => XS.iloadN X226.here hx rfl (hb hby d18_18) rfl k) ?_
  show own_go _ _ _ _ _ _ _ (T226.setTop (mkF m 19 #[.val (.ref a1), .val (.int (1 : Int32)), .val (.int (2 : Int32)), .val (.ref r224), .val (.int (1 : Int32))] [(.int (1 : Int32)), (.ref a1), (.int (1 : Int32)), (.ref r224)]))
  have f227 := (f225.keep Kq226 (ninS ne_a1_r224 nin0))
  refine oS (own_getC X226 hx hZ rfl f227 (j := (1 : Int32)) (by decide) (v := (.int c1)) rfl (g := (mkF m 19 #[.val (.ref a1), .val (.int (1 : Int32)), .val (.int (2 : Int32)), .val (.ref r224), .val (.int (1 : Int32))] [(.int (1 : Int32)), (.ref a1), (.int (1 : Int32)), (.ref r224)])) rfl rfl (hb hby d18_19)) ?_
  show own_go _ _ _ _ _ _ _ (T226.setTop (mkF m 20 #[.val (.ref a1), .val (.int (1 : Int32)), .val (.int (2 : Int32)), .val (.ref r224), .val (.int (1 : Int32))] [(.int c1), (.int (1 : Int32)), (.ref r224)]))
  obtain ⟨v228, T228, L228, X228, hQ228, st228⟩ := own_callS X226 hx hZ (argsL := [(.ref r224), (.int (1 : Int32)), (.int c1)]) (rest := []) (rm_pc_2_1 l Z a0 hw r224 kr224 c1 (c0.toInt8.toInt32) ((c0 >>> ((8 : Int32) &&& 31)).toInt8.toInt32) (0 : Int32) (0 : Int32) zC vS T226.heap n0 O226 hS (Nat.le_trans (own_osz O0) sz224) Vq226) hown (ow hw 91 rfl) (ow hw 92 rfl) (ow hw 38 rfl) (ow hw 93 rfl) (by decide) rfl (g := (mkF m 20 #[.val (.ref a1), .val (.int (1 : Int32)), .val (.int (2 : Int32)), .val (.ref r224), .val (.int (1 : Int32))] [(.int c1), (.int (1 : Int32)), (.ref r224)])) rfl (by rw [hml]; rfl) (lenOf own_pd__28_5bBII_29V rfl) rfl (W := 0) (by show 2 * 0 + _ ≤ _; exact Nat.le_of_eq rfl) (hb hby d18_20) (by decide) (by decide) (by decide) (by decide)
  obtain ⟨rfl, Nq228, Kq228, Vq228⟩ := hQ228
  have N228 := Fr.app N226 Nq228
  have O228 := O226.keep Kq228 (allS (Nat.le_trans (own_osz O0) sz224) all0)
  have K228 := K226.trans Kq228 (allS (Or.inr (Nat.le_trans K0.1 sz224)) all0)
  refine oS st228 ?_
  show own_go _ _ _ _ _ _ _ (T228.setTop (mkF m 23 #[.val (.ref a1), .val (.int (1 : Int32)), .val (.int (2 : Int32)), .val (.ref r224), .val (.int (1 : Int32))] []))
  refine oS (fun _ k => XS.iinc X228.here hx rfl (hb hby d18_23) rfl (l' := #[.val (.ref a1), .val (.int (2 : Int32)), .val (.int (2 : Int32)), .val (.ref r224), .val (.int (1 : Int32))]) rfl k) ?_
  refine oS (fun _ k => XS.iinc X228.here hx rfl (hb hby d18_26) rfl (l' := #[.val (.ref a1), .val (.int (2 : Int32)), .val (.int (2 : Int32)), .val (.ref r224), .val (.int (2 : Int32))]) rfl k) ?_
  refine oS (fun _ k => XS.goto X228.here hx rfl (pc0 := 29) (pc' := 8) rfl (hb hby d18_29) (by decide) (by decide) k) ?_
  refine oS (fun _ k => XS.iload X228.here hx rfl (hb hby d18_8) rfl k) ?_
  refine oS (fun _ k => XS.iloadN X228.here hx rfl (hb hby d18_10) rfl k) ?_
  show own_go _ _ _ _ _ _ _ (T228.setTop (mkF m 11 #[.val (.ref a1), .val (.int (2 : Int32)), .val (.int (2 : Int32)), .val (.ref r224), .val (.int (2 : Int32))] [(.int (2 : Int32)), (.int (2 : Int32))]))
  refine oS (fun _ k => XS.icmpYes X228.here hx rfl (pc0 := 11) (pc' := 32) rfl (hb hby d18_11) rfl (by decide) (by decide) (by decide) k) ?_
  refine oS (fun _ k => XS.aloadN X228.here hx rfl (hb hby d18_32) rfl rfl k) ?_
  show own_go _ _ _ _ _ _ _ (T228.setTop (mkF m 33 #[.val (.ref a1), .val (.int (2 : Int32)), .val (.int (2 : Int32)), .val (.ref r224), .val (.int (2 : Int32))] [(.ref r224)]))
  exact own_retA X228 hx hlk hret rfl rfl (hb hby d18_33) (by decide) (by decide) ⟨_, _, rfl, N228, K228, (Nat.le_trans K0.1 sz224), Vq228⟩
theorem own_ef_rm_ci_2 (m : MethodId) (a1 : Addr) (a2 : Addr) : entryFrame m #[(.ref a1), (.int (0 : Int32)), (.ref a2), (.int (0 : Int32)), (.int (2 : Int32))] 7 = mkF m 0 #[.val (.ref a1), .val (.int (0 : Int32)), .val (.ref a2), .val (.int (0 : Int32)), .val (.int (2 : Int32)), .unset, .unset] [] := by first | (simp [entryFrame, mkF, argsToLocals, Value.category]; done) | rfl
set_option maxRecDepth 65536 in
set_option maxHeartbeats 40000000 in
theorem rm_ci_2 (l : Launch) (Z : State) (a0 : Array Value) (hw : ∀ d ∈ tables_1, d.before a0 Z = true) (a1 a2 : Addr) (k1 k2 : ClassId) (c0 c1 : Int32) (h0 : Heap) (n0 : Nat) (O0 : Old Z n0 h0) (V1 : Arv Z h0 a1 k1 .char (2 : Int32) [(.int c0), (.int c1)] (.int (0 : Int32))) (V2 : Arv Z h0 a2 k2 .byte (2 : Int32) [(.int (0 : Int32)), (.int (0 : Int32))] (.int (0 : Int32))) (ge_a2 : n0 ≤ a2) (ne12 : a1 ≠ a2) :
    own_Met l Z (⟨"java/lang/StringUTF16", "compress", "([CI[BII)I"⟩ : MethodName) jdk_52_method_21_code 7 (some .int) [] ({ frames := 0, cells := 0, slots := 0, locals := 0 } : Room) #[(.ref a1), (.int (0 : Int32)), (.ref a2), (.int (0 : Int32)), (.int (2 : Int32))] h0 (fun v h L => ∃ z, v = some (.int z) ∧ Fr n0 L ∧ Keep h0 h [a2] ∧ (((255 : Int32) < c0) → z = (0 : Int32)) ∧ ((¬ (255 : Int32) < c0 ∧ (255 : Int32) < c1) → z = (1 : Int32)) ∧ ((¬ (255 : Int32) < c0 ∧ ¬ (255 : Int32) < c1) → z = (2 : Int32) ∧ Arv Z h a2 k2 .byte (2 : Int32) [(.int (c0.toInt8.toInt32)), (.int (c1.toInt8.toInt32))] (.int (0 : Int32)))) := by
  refine own_body own_pn_8 ?_
  intro p e s m below meth c s₁ hx hby hml hown hnm hret hlk X0 hZ e0
  replace hown : s.vm.findClass "java/lang/StringUTF16" = some m.cls := hown
  have N0 := Fr.nil n0
  have K0 := Keep.refl h0 [a2]
  refine oS (fun _ k => castTop (own_ef_rm_ci_2 m a1 a2) k) ?_
  show own_go _ _ _ _ _ _ _ (s₁.setTop (mkF m 0 #[.val (.ref a1), .val (.int (0 : Int32)), .val (.ref a2), .val (.int (0 : Int32)), .val (.int (2 : Int32)), .unset, .unset] []))
  refine oS (fun _ k => XS.iconst X0.here hx rfl (hb hby d8_0) k) ?_
  refine oS (fun _ k => XS.istore X0.here hx rfl (hb hby d8_1) rfl (l' := #[.val (.ref a1), .val (.int (0 : Int32)), .val (.ref a2), .val (.int (0 : Int32)), .val (.int (2 : Int32)), .val (.int (0 : Int32)), .unset]) rfl k) ?_
  refine oS (fun _ k => XS.iload X0.here hx rfl (hb hby d8_3) rfl k) ?_
  refine oS (fun _ k => XS.iload X0.here hx rfl (hb hby d8_5) rfl k) ?_
  show own_go _ _ _ _ _ _ _ (s₁.setTop (mkF m 7 #[.val (.ref a1), .val (.int (0 : Int32)), .val (.ref a2), .val (.int (0 : Int32)), .val (.int (2 : Int32)), .val (.int (0 : Int32)), .unset] [(.int (2 : Int32)), (.int (0 : Int32))]))
  refine oS (fun _ k => XS.icmpNo X0.here hx rfl (hb hby d8_7) rfl (by decide) k) ?_
  refine oS (fun _ k => XS.aloadN X0.here hx rfl (hb hby d8_10) rfl rfl k) ?_
  refine oS (fun _ k => XS.iloadN X0.here hx rfl (hb hby d8_11) rfl k) ?_
  show own_go _ _ _ _ _ _ _ (s₁.setTop (mkF m 12 #[.val (.ref a1), .val (.int (0 : Int32)), .val (.ref a2), .val (.int (0 : Int32)), .val (.int (2 : Int32)), .val (.int (0 : Int32)), .unset] [(.int (0 : Int32)), (.ref a1)]))
  refine oS (own_getC X0 hx hZ e0 V1 (j := (0 : Int32)) (by decide) (v := (.int c0)) rfl (g := (mkF m 12 #[.val (.ref a1), .val (.int (0 : Int32)), .val (.ref a2), .val (.int (0 : Int32)), .val (.int (2 : Int32)), .val (.int (0 : Int32)), .unset] [(.int (0 : Int32)), (.ref a1)])) rfl rfl (hb hby d8_12)) ?_
  show own_go _ _ _ _ _ _ _ (s₁.setTop (mkF m 13 #[.val (.ref a1), .val (.int (0 : Int32)), .val (.ref a2), .val (.int (0 : Int32)), .val (.int (2 : Int32)), .val (.int (0 : Int32)), .unset] [(.int c0)]))
  refine oS (fun _ k => XS.istore X0.here hx rfl (hb hby d8_13) rfl (l' := #[.val (.ref a1), .val (.int (0 : Int32)), .val (.ref a2), .val (.int (0 : Int32)), .val (.int (2 : Int32)), .val (.int (0 : Int32)), .val (.int c0)]) rfl k) ?_
  refine oS (fun _ k => XS.iload X0.here hx rfl (hb hby d8_15) rfl k) ?_
  refine oS (fun _ k => XS.sipush X0.here hx rfl (hb hby d8_17) k) ?_
  show own_go _ _ _ _ _ _ _ (s₁.setTop (mkF m 20 #[.val (.ref a1), .val (.int (0 : Int32)), .val (.ref a2), .val (.int (0 : Int32)), .val (.int (2 : Int32)), .val (.int (0 : Int32)), .val (.int c0)] [(.int (255 : Int32)), (.int c0)]))
  by_cases hc229 : (255 : Int32) < c0
  · skip
    refine oS (fun _ k => XS.icmpNo X0.here hx rfl (hb hby d8_20) rfl (XT.ii_le_f hc229) k) ?_
    refine oS (fun _ k => XS.iload X0.here hx rfl (hb hby d8_23) rfl k) ?_
    show own_go _ _ _ _ _ _ _ (s₁.setTop (mkF m 25 #[.val (.ref a1), .val (.int (0 : Int32)), .val (.ref a2), .val (.int (0 : Int32)), .val (.int (2 : Int32)), .val (.int (0 : Int32)), .val (.int c0)] [(.int (0 : Int32))]))
    exact own_retI X0 hx hlk hret (hb hby d8_25) (by decide) (by decide) (by rw [e0]; exact ⟨_, rfl, N0, K0, fun _ => rfl, fun q => absurd hc229 q.1, fun q => absurd hc229 q.1⟩)
  · skip
    refine oS (fun _ k => XS.icmpYes X0.here hx rfl (pc0 := 20) (pc' := 26) rfl (hb hby d8_20) rfl (XT.ii_le_t hc229) (by decide) (by decide) k) ?_
    refine oS (fun _ k => XS.aloadN X0.here hx rfl (hb hby d8_26) rfl rfl k) ?_
    refine oS (fun _ k => XS.iloadN X0.here hx rfl (hb hby d8_27) rfl k) ?_
    refine oS (fun _ k => XS.iload X0.here hx rfl (hb hby d8_28) rfl k) ?_
    refine oS (fun _ k => XS.i2b X0.here hx rfl (hb hby d8_30) rfl k) ?_
    show own_go _ _ _ _ _ _ _ (s₁.setTop (mkF m 31 #[.val (.ref a1), .val (.int (0 : Int32)), .val (.ref a2), .val (.int (0 : Int32)), .val (.int (2 : Int32)), .val (.int (0 : Int32)), .val (.int c0)] [(.int (c0.toInt8.toInt32)), (.int (0 : Int32)), (.ref a2)]))
    obtain ⟨T230, h230, X230, e230, W230, V230, st230⟩ := own_putB X0 hx hZ e0 V2 (y := (c0.toInt8.toInt32)) (own_nb8 _) (j := (0 : Int32)) (by decide) 0 (by decide) (by show 0 < 2; decide) (g := (mkF m 31 #[.val (.ref a1), .val (.int (0 : Int32)), .val (.ref a2), .val (.int (0 : Int32)), .val (.int (2 : Int32)), .val (.int (0 : Int32)), .val (.int c0)] [(.int (c0.toInt8.toInt32)), (.int (0 : Int32)), (.ref a2)])) rfl rfl (hb hby d8_31)
    have N230 := Fr.snoc X230 N0 ge_a2
    replace V230 : Arv Z h230 a2 k2 .byte (2 : Int32) [(.int (c0.toInt8.toInt32)), (.int (0 : Int32))] (.int (0 : Int32)) := V230
    have O231 := O0.wr W230 ge_a2
    have K231 := K0.wr W230 (Or.inl (List.mem_of_getElem? (i := 0) rfl))
    refine oS st230 ?_
    show own_go _ _ _ _ _ _ _ (T230.setTop (mkF m 32 #[.val (.ref a1), .val (.int (0 : Int32)), .val (.ref a2), .val (.int (0 : Int32)), .val (.int (2 : Int32)), .val (.int (0 : Int32)), .val (.int c0)] []))
    refine oS (fun _ k => XS.iinc X230.here hx rfl (hb hby d8_32) rfl (l' := #[.val (.ref a1), .val (.int (1 : Int32)), .val (.ref a2), .val (.int (0 : Int32)), .val (.int (2 : Int32)), .val (.int (0 : Int32)), .val (.int c0)]) rfl k) ?_
    refine oS (fun _ k => XS.iinc X230.here hx rfl (hb hby d8_35) rfl (l' := #[.val (.ref a1), .val (.int (1 : Int32)), .val (.ref a2), .val (.int (1 : Int32)), .val (.int (2 : Int32)), .val (.int (0 : Int32)), .val (.int c0)]) rfl k) ?_
    refine oS (fun _ k => XS.iinc X230.here hx rfl (hb hby d8_38) rfl (l' := #[.val (.ref a1), .val (.int (1 : Int32)), .val (.ref a2), .val (.int (1 : Int32)), .val (.int (2 : Int32)), .val (.int (1 : Int32)), .val (.int c0)]) rfl k) ?_
    refine oS (fun _ k => XS.goto X230.here hx rfl (pc0 := 41) (pc' := 3) rfl (hb hby d8_41) (by decide) (by decide) k) ?_
    refine oS (fun _ k => XS.iload X230.here hx rfl (hb hby d8_3) rfl k) ?_
    show own_go _ _ _ _ _ _ _ (T230.setTop (mkF m 5 #[.val (.ref a1), .val (.int (1 : Int32)), .val (.ref a2), .val (.int (1 : Int32)), .val (.int (2 : Int32)), .val (.int (1 : Int32)), .val (.int c0)] [(.int (1 : Int32))]))
    refine oS (fun _ k => XS.iload X230.here hx rfl (hb hby d8_5) rfl k) ?_
    show own_go _ _ _ _ _ _ _ (T230.setTop (mkF m 7 #[.val (.ref a1), .val (.int (1 : Int32)), .val (.ref a2), .val (.int (1 : Int32)), .val (.int (2 : Int32)), .val (.int (1 : Int32)), .val (.int c0)] [(.int (2 : Int32)), (.int (1 : Int32))]))
    refine oS (fun _ k => XS.icmpNo X230.here hx rfl (hb hby d8_7) rfl (by decide) k) ?_
    refine oS (fun _ k => XS.aloadN X230.here hx rfl (hb hby d8_10) rfl rfl k) ?_
    refine oS (fun _ k => XS.iloadN X230.here hx rfl (hb hby d8_11) rfl k) ?_
    show own_go _ _ _ _ _ _ _ (T230.setTop (mkF m 12 #[.val (.ref a1), .val (.int (1 : Int32)), .val (.ref a2), .val (.int (1 : Int32)), .val (.int (2 : Int32)), .val (.int (1 : Int32)), .val (.int c0)] [(.int (1 : Int32)), (.ref a1)]))
    have f232 := (V1.other W230 ne12)
    refine oS (own_getC X230 hx hZ e230 f232 (j := (1 : Int32)) (by decide) (v := (.int c1)) rfl (g := (mkF m 12 #[.val (.ref a1), .val (.int (1 : Int32)), .val (.ref a2), .val (.int (1 : Int32)), .val (.int (2 : Int32)), .val (.int (1 : Int32)), .val (.int c0)] [(.int (1 : Int32)), (.ref a1)])) rfl rfl (hb hby d8_12)) ?_
    show own_go _ _ _ _ _ _ _ (T230.setTop (mkF m 13 #[.val (.ref a1), .val (.int (1 : Int32)), .val (.ref a2), .val (.int (1 : Int32)), .val (.int (2 : Int32)), .val (.int (1 : Int32)), .val (.int c0)] [(.int c1)]))
    refine oS (fun _ k => XS.istore X230.here hx rfl (hb hby d8_13) rfl (l' := #[.val (.ref a1), .val (.int (1 : Int32)), .val (.ref a2), .val (.int (1 : Int32)), .val (.int (2 : Int32)), .val (.int (1 : Int32)), .val (.int c1)]) rfl k) ?_
    refine oS (fun _ k => XS.iload X230.here hx rfl (hb hby d8_15) rfl k) ?_
    refine oS (fun _ k => XS.sipush X230.here hx rfl (hb hby d8_17) k) ?_
    show own_go _ _ _ _ _ _ _ (T230.setTop (mkF m 20 #[.val (.ref a1), .val (.int (1 : Int32)), .val (.ref a2), .val (.int (1 : Int32)), .val (.int (2 : Int32)), .val (.int (1 : Int32)), .val (.int c1)] [(.int (255 : Int32)), (.int c1)]))
    by_cases hc233 : (255 : Int32) < c1
    · skip
      refine oS (fun _ k => XS.icmpNo X230.here hx rfl (hb hby d8_20) rfl (XT.ii_le_f hc233) k) ?_
      refine oS (fun _ k => XS.iload X230.here hx rfl (hb hby d8_23) rfl k) ?_
      show own_go _ _ _ _ _ _ _ (T230.setTop (mkF m 25 #[.val (.ref a1), .val (.int (1 : Int32)), .val (.ref a2), .val (.int (1 : Int32)), .val (.int (2 : Int32)), .val (.int (1 : Int32)), .val (.int c1)] [(.int (1 : Int32))]))
      exact own_retI X230 hx hlk hret (hb hby d8_25) (by decide) (by decide) (by rw [e230]; exact ⟨_, rfl, N230, K231, fun q => absurd q hc229, fun _ => rfl, fun q => absurd hc233 q.2⟩)
    · skip
      refine oS (fun _ k => XS.icmpYes X230.here hx rfl (pc0 := 20) (pc' := 26) rfl (hb hby d8_20) rfl (XT.ii_le_t hc233) (by decide) (by decide) k) ?_
      refine oS (fun _ k => XS.aloadN X230.here hx rfl (hb hby d8_26) rfl rfl k) ?_
      refine oS (fun _ k => XS.iloadN X230.here hx rfl (hb hby d8_27) rfl k) ?_
      refine oS (fun _ k => XS.iload X230.here hx rfl (hb hby d8_28) rfl k) ?_
      refine oS (fun _ k => XS.i2b X230.here hx rfl (hb hby d8_30) rfl k) ?_
      show own_go _ _ _ _ _ _ _ (T230.setTop (mkF m 31 #[.val (.ref a1), .val (.int (1 : Int32)), .val (.ref a2), .val (.int (1 : Int32)), .val (.int (2 : Int32)), .val (.int (1 : Int32)), .val (.int c1)] [(.int (c1.toInt8.toInt32)), (.int (1 : Int32)), (.ref a2)]))
      obtain ⟨T234, h234, X234, e234, W234, V234, st234⟩ := own_putB X230 hx hZ e230 V230 (y := (c1.toInt8.toInt32)) (own_nb8 _) (j := (1 : Int32)) (by decide) 1 (by decide) (by show 1 < 2; decide) (g := (mkF m 31 #[.val (.ref a1), .val (.int (1 : Int32)), .val (.ref a2), .val (.int (1 : Int32)), .val (.int (2 : Int32)), .val (.int (1 : Int32)), .val (.int c1)] [(.int (c1.toInt8.toInt32)), (.int (1 : Int32)), (.ref a2)])) rfl rfl (hb hby d8_31)
      have N234 := Fr.snoc X234 N230 ge_a2
      replace V234 : Arv Z h234 a2 k2 .byte (2 : Int32) [(.int (c0.toInt8.toInt32)), (.int (c1.toInt8.toInt32))] (.int (0 : Int32)) := V234
      have O235 := O231.wr W234 ge_a2
      have K235 := K231.wr W234 (Or.inl (List.mem_of_getElem? (i := 0) rfl))
      refine oS st234 ?_
      show own_go _ _ _ _ _ _ _ (T234.setTop (mkF m 32 #[.val (.ref a1), .val (.int (1 : Int32)), .val (.ref a2), .val (.int (1 : Int32)), .val (.int (2 : Int32)), .val (.int (1 : Int32)), .val (.int c1)] []))
      refine oS (fun _ k => XS.iinc X234.here hx rfl (hb hby d8_32) rfl (l' := #[.val (.ref a1), .val (.int (2 : Int32)), .val (.ref a2), .val (.int (1 : Int32)), .val (.int (2 : Int32)), .val (.int (1 : Int32)), .val (.int c1)]) rfl k) ?_
      refine oS (fun _ k => XS.iinc X234.here hx rfl (hb hby d8_35) rfl (l' := #[.val (.ref a1), .val (.int (2 : Int32)), .val (.ref a2), .val (.int (2 : Int32)), .val (.int (2 : Int32)), .val (.int (1 : Int32)), .val (.int c1)]) rfl k) ?_
      refine oS (fun _ k => XS.iinc X234.here hx rfl (hb hby d8_38) rfl (l' := #[.val (.ref a1), .val (.int (2 : Int32)), .val (.ref a2), .val (.int (2 : Int32)), .val (.int (2 : Int32)), .val (.int (2 : Int32)), .val (.int c1)]) rfl k) ?_
      refine oS (fun _ k => XS.goto X234.here hx rfl (pc0 := 41) (pc' := 3) rfl (hb hby d8_41) (by decide) (by decide) k) ?_
      refine oS (fun _ k => XS.iload X234.here hx rfl (hb hby d8_3) rfl k) ?_
      show own_go _ _ _ _ _ _ _ (T234.setTop (mkF m 5 #[.val (.ref a1), .val (.int (2 : Int32)), .val (.ref a2), .val (.int (2 : Int32)), .val (.int (2 : Int32)), .val (.int (2 : Int32)), .val (.int c1)] [(.int (2 : Int32))]))
      refine oS (fun _ k => XS.iload X234.here hx rfl (hb hby d8_5) rfl k) ?_
      show own_go _ _ _ _ _ _ _ (T234.setTop (mkF m 7 #[.val (.ref a1), .val (.int (2 : Int32)), .val (.ref a2), .val (.int (2 : Int32)), .val (.int (2 : Int32)), .val (.int (2 : Int32)), .val (.int c1)] [(.int (2 : Int32)), (.int (2 : Int32))]))
      refine oS (fun _ k => XS.icmpYes X234.here hx rfl (pc0 := 7) (pc' := 44) rfl (hb hby d8_7) rfl (by decide) (by decide) (by decide) k) ?_
      refine oS (fun _ k => XS.iload X234.here hx rfl (hb hby d8_44) rfl k) ?_
      show own_go _ _ _ _ _ _ _ (T234.setTop (mkF m 46 #[.val (.ref a1), .val (.int (2 : Int32)), .val (.ref a2), .val (.int (2 : Int32)), .val (.int (2 : Int32)), .val (.int (2 : Int32)), .val (.int c1)] [(.int (2 : Int32))]))
      exact own_retI X234 hx hlk hret (hb hby d8_46) (by decide) (by decide) (by rw [e234]; exact ⟨_, rfl, N234, K235, fun q => absurd q hc229, fun q => absurd q.2 hc233, fun _ => ⟨rfl, V234⟩⟩)
theorem own_ef_rm_co_2_0 (m : MethodId) (a1 : Addr) : entryFrame m #[(.ref a1), (.int (0 : Int32)), (.int (2 : Int32))] 6 = mkF m 0 #[.val (.ref a1), .val (.int (0 : Int32)), .val (.int (2 : Int32)), .unset, .unset, .unset] [] := by first | (simp [entryFrame, mkF, argsToLocals, Value.category]; done) | rfl
set_option maxRecDepth 65536 in
set_option maxHeartbeats 40000000 in
theorem rm_co_2_0 (l : Launch) (Z : State) (a0 : Array Value) (hw : ∀ d ∈ tables_1, d.before a0 Z = true) (a1 : Addr) (k1 : ClassId) (c0 c1 : Int32) (zC : Int32) (vS : Value) (h0 : Heap) (n0 : Nat) (O0 : Old Z n0 h0) (hS : own_S Z zC vS) (V1 : Arv Z h0 a1 k1 .char (2 : Int32) [(.int c0), (.int c1)] (.int (0 : Int32))) (hc0 : own_ch c0) (hc1 : own_ch c1) (hB : (255 : Int32) < c0) :
    own_Met l Z (⟨"java/lang/StringUTF16", "compress", "([CII)[B"⟩ : MethodName) jdk_52_method_16_code 6 (some (.array .byte)) [] ({ frames := 3, cells := 2, slots := 6, locals := 60 } : Room) #[(.ref a1), (.int (0 : Int32)), (.int (2 : Int32))] h0 (fun v h L => ∃ a k, v = some (.ref a) ∧ Fr n0 L ∧ Keep h0 h [] ∧ h0.size ≤ a ∧ Arv Z h a k .byte (4 : Int32) [(.int (c0.toInt8.toInt32)), (.int ((c0 >>> ((8 : Int32) &&& 31)).toInt8.toInt32)), (.int (c1.toInt8.toInt32)), (.int ((c1 >>> ((8 : Int32) &&& 31)).toInt8.toInt32))] (.int (0 : Int32))) := by
  refine own_body own_pn_7 ?_
  intro p e s m below meth c s₁ hx hby hml hown hnm hret hlk X0 hZ e0
  replace hown : s.vm.findClass "java/lang/StringUTF16" = some m.cls := hown
  have N0 := Fr.nil n0
  have K0 := Keep.refl h0 []
  refine oS (fun _ k => castTop (own_ef_rm_co_2_0 m a1) k) ?_
  show own_go _ _ _ _ _ _ _ (s₁.setTop (mkF m 0 #[.val (.ref a1), .val (.int (0 : Int32)), .val (.int (2 : Int32)), .unset, .unset, .unset] []))
  refine oS (fun _ k => XS.iloadN X0.here hx rfl (hb hby d7_0) rfl k) ?_
  show own_go _ _ _ _ _ _ _ (s₁.setTop (mkF m 1 #[.val (.ref a1), .val (.int (0 : Int32)), .val (.int (2 : Int32)), .unset, .unset, .unset] [(.int (2 : Int32))]))
  obtain ⟨T236, h236, k236, b236, X236, e236, g236, E236, V236, st236⟩ := own_newP X0 hx hZ (aty := .byte) (ow hw 19 rfl) e0 (g := (mkF m 1 #[.val (.ref a1), .val (.int (0 : Int32)), .val (.int (2 : Int32)), .unset, .unset, .unset] [(.int (2 : Int32))])) rfl (hb hby d7_1) rfl (by decide) (cap := 2) (by decide) (by decide) (by decide) (by decide)
  replace V236 : Arv Z h236 b236 k236 .byte (2 : Int32) [(.int (0 : Int32)), (.int (0 : Int32))] (.int (0 : Int32)) := V236
  have ge_b236 : n0 ≤ b236 := by rw [g236]; exact own_osz O0
  have sz_b236 : h0.size ≤ b236 := by rw [g236]; exact K0.1
  have ne_a1_b236 : a1 ≠ b236 := (fun q => absurd V1.lt (by rw [q, g236]; exact Nat.lt_irrefl _))
  have O236 := O0.ext E236
  have K236 := K0.ext E236
  refine oS st236 ?_
  show own_go _ _ _ _ _ _ _ (T236.setTop (mkF m 3 #[.val (.ref a1), .val (.int (0 : Int32)), .val (.int (2 : Int32)), .unset, .unset, .unset] [(.ref b236)]))
  refine oS (fun _ k => XS.astoreN X236.here hx rfl (hb hby d7_3) rfl rfl (l' := #[.val (.ref a1), .val (.int (0 : Int32)), .val (.int (2 : Int32)), .val (.ref b236), .unset, .unset]) rfl k) ?_
  refine oS (fun _ k => XS.aloadN X236.here hx rfl (hb hby d7_4) rfl rfl k) ?_
  refine oS (fun _ k => XS.iloadN X236.here hx rfl (hb hby d7_5) rfl k) ?_
  refine oS (fun _ k => XS.aloadN X236.here hx rfl (hb hby d7_6) rfl rfl k) ?_
  refine oS (fun _ k => XS.iconst X236.here hx rfl (hb hby d7_7) k) ?_
  show own_go _ _ _ _ _ _ _ (T236.setTop (mkF m 8 #[.val (.ref a1), .val (.int (0 : Int32)), .val (.int (2 : Int32)), .val (.ref b236), .unset, .unset] [(.int (0 : Int32)), (.ref b236), (.int (0 : Int32)), (.ref a1)]))
  refine oS (fun _ k => XS.iloadN X236.here hx rfl (hb hby d7_8) rfl k) ?_
  show own_go _ _ _ _ _ _ _ (T236.setTop (mkF m 9 #[.val (.ref a1), .val (.int (0 : Int32)), .val (.int (2 : Int32)), .val (.ref b236), .unset, .unset] [(.int (2 : Int32)), (.int (0 : Int32)), (.ref b236), (.int (0 : Int32)), (.ref a1)]))
  have f238 := (V1.ext E236)
  obtain ⟨v237, T237, L237, X237, hQ237, st237⟩ := own_callS X236 hx hZ (argsL := [(.ref a1), (.int (0 : Int32)), (.ref b236), (.int (0 : Int32)), (.int (2 : Int32))]) (rest := []) (rm_ci_2 l Z a0 hw a1 b236 k1 k236 c0 c1 h236 n0 O236 f238 V236 ge_b236 ne_a1_b236) hown (ow hw 40 rfl) (ow hw 41 rfl) (ow hw 38 rfl) (ow hw 42 rfl) (by decide) e236 (g := (mkF m 9 #[.val (.ref a1), .val (.int (0 : Int32)), .val (.int (2 : Int32)), .val (.ref b236), .unset, .unset] [(.int (2 : Int32)), (.int (0 : Int32)), (.ref b236), (.int (0 : Int32)), (.ref a1)])) rfl (by rw [hml]; rfl) (lenOf own_pd__28_5bCI_5bBII_29I rfl) rfl (W := 0) (by show 2 * 0 + _ ≤ _; exact Nat.le_of_eq rfl) (hb hby d7_9) (by decide) (by decide) (by decide) (by decide)
  obtain ⟨z237, rfl, Nq237, Kq237, i0_237, i1_237, i2_237⟩ := hQ237
  have N237 := Fr.app N0 Nq237
  obtain rfl := i0_237 hB
  have O237 := O236.keep Kq237 (allS ge_b236 all0)
  have K237 := K236.trans Kq237 (allS (Or.inr sz_b236) all0)
  refine oS st237 ?_
  show own_go _ _ _ _ _ _ _ (T237.setTop (mkF m 12 #[.val (.ref a1), .val (.int (0 : Int32)), .val (.int (2 : Int32)), .val (.ref b236), .unset, .unset] [(.int (0 : Int32))]))
  refine oS (fun _ k => XS.istore X237.here hx rfl (hb hby d7_12) rfl (l' := #[.val (.ref a1), .val (.int (0 : Int32)), .val (.int (2 : Int32)), .val (.ref b236), .val (.int (0 : Int32)), .unset]) rfl k) ?_
  refine oS (fun _ k => XS.iload X237.here hx rfl (hb hby d7_14) rfl k) ?_
  refine oS (fun _ k => XS.iloadN X237.here hx rfl (hb hby d7_16) rfl k) ?_
  show own_go _ _ _ _ _ _ _ (T237.setTop (mkF m 17 #[.val (.ref a1), .val (.int (0 : Int32)), .val (.int (2 : Int32)), .val (.ref b236), .val (.int (0 : Int32)), .unset] [(.int (2 : Int32)), (.int (0 : Int32))]))
  refine oS (fun _ k => XS.icmpNo X237.here hx rfl (hb hby d7_17) rfl (by decide) k) ?_
  refine oS (fun _ k => XS.aloadN X237.here hx rfl (hb hby d7_20) rfl rfl k) ?_
  refine oS (fun _ k => XS.iloadN X237.here hx rfl (hb hby d7_21) rfl k) ?_
  refine oS (fun _ k => XS.iloadN X237.here hx rfl (hb hby d7_22) rfl k) ?_
  show own_go _ _ _ _ _ _ _ (T237.setTop (mkF m 23 #[.val (.ref a1), .val (.int (0 : Int32)), .val (.int (2 : Int32)), .val (.ref b236), .val (.int (0 : Int32)), .unset] [(.int (2 : Int32)), (.int (0 : Int32)), (.ref a1)]))
  have f240 := (f238.keep Kq237 (ninS ne_a1_b236 nin0))
  obtain ⟨v239, T239, L239, X239, hQ239, st239⟩ := own_callS X237 hx hZ (argsL := [(.ref a1), (.int (0 : Int32)), (.int (2 : Int32))]) (rest := []) (rm_tb_2 l Z a0 hw a1 k1 c0 c1 zC vS T237.heap n0 O237 hS f240) hown (ow hw 81 rfl) (ow hw 82 rfl) (ow hw 38 rfl) (ow hw 83 rfl) (by decide) rfl (g := (mkF m 23 #[.val (.ref a1), .val (.int (0 : Int32)), .val (.int (2 : Int32)), .val (.ref b236), .val (.int (0 : Int32)), .unset] [(.int (2 : Int32)), (.int (0 : Int32)), (.ref a1)])) rfl (by rw [hml]; rfl) (lenOf own_pd__28_5bCII_29_5bB rfl) rfl (W := 0) (by show 2 * 0 + _ ≤ _; exact Nat.le_of_eq rfl) (hb hby d7_23) (by decide) (by decide) (by decide) (by decide)
  obtain ⟨r239, kr239, rfl, Nq239, Kq239, sz239, Vq239⟩ := hQ239
  have N239 := Fr.app N237 Nq239
  have ne_a1_r239 : a1 ≠ r239 := (Nat.ne_of_lt (Nat.lt_of_lt_of_le f240.lt sz239))
  have O239 := O237.keep Kq239 all0
  have K239 := K237.trans Kq239 all0
  refine oS st239 ?_
  show own_go _ _ _ _ _ _ _ (T239.setTop (mkF m 26 #[.val (.ref a1), .val (.int (0 : Int32)), .val (.int (2 : Int32)), .val (.ref b236), .val (.int (0 : Int32)), .unset] [(.ref r239)]))
  refine oS (fun _ k => XS.astore X239.here hx rfl (hb hby d7_26) rfl rfl (l' := #[.val (.ref a1), .val (.int (0 : Int32)), .val (.int (2 : Int32)), .val (.ref b236), .val (.int (0 : Int32)), .val (.ref r239)]) rfl k) ?_
  refine oS (fun _ k => XS.aload X239.here hx rfl (hb hby d7_28) rfl rfl k) ?_
  refine oS (fun _ k => XS.iload X239.here hx rfl (hb hby d7_30) rfl k) ?_
  show own_go _ _ _ _ _ _ _ (T239.setTop (mkF m 32 #[.val (.ref a1), .val (.int (0 : Int32)), .val (.int (2 : Int32)), .val (.ref b236), .val (.int (0 : Int32)), .val (.ref r239)] [(.int (0 : Int32)), (.ref r239)]))
  obtain ⟨v241, T241, L241, X241, hQ241, st241⟩ := own_callS X239 hx hZ (argsL := [(.ref r239), (.int (0 : Int32))]) (rest := []) (rm_gc_2_0 l Z a0 hw r239 kr239 c0 c1 zC vS T239.heap n0 O239 hS Vq239 hc0) hown (ow hw 97 rfl) (ow hw 98 rfl) (ow hw 38 rfl) (ow hw 99 rfl) (by decide) rfl (g := (mkF m 32 #[.val (.ref a1), .val (.int (0 : Int32)), .val (.int (2 : Int32)), .val (.ref b236), .val (.int (0 : Int32)), .val (.ref r239)] [(.int (0 : Int32)), (.ref r239)])) rfl (by rw [hml]; rfl) (lenOf own_pd__28_5bBI_29C rfl) rfl (W := 0) (by show 2 * 0 + _ ≤ _; exact Nat.le_of_eq rfl) (hb hby d7_32) (by decide) (by decide) (by decide) (by decide)
  obtain ⟨rfl, Nq241, eq241⟩ := hQ241
  have N241 := Fr.app N239 Nq241
  refine oS st241 ?_
  show own_go _ _ _ _ _ _ _ (T241.setTop (mkF m 35 #[.val (.ref a1), .val (.int (0 : Int32)), .val (.int (2 : Int32)), .val (.ref b236), .val (.int (0 : Int32)), .val (.ref r239)] [(.int c0)]))
  refine oS (fun _ k => XS.sipush X241.here hx rfl (hb hby d7_35) k) ?_
  show own_go _ _ _ _ _ _ _ (T241.setTop (mkF m 38 #[.val (.ref a1), .val (.int (0 : Int32)), .val (.int (2 : Int32)), .val (.ref b236), .val (.int (0 : Int32)), .val (.ref r239)] [(.int (255 : Int32)), (.int c0)]))
  refine oS (fun _ k => XS.icmpYes X241.here hx rfl (pc0 := 38) (pc' := 54) rfl (hb hby d7_38) rfl (XT.ii_gt_t hB) (by decide) (by decide) k) ?_
  refine oS (fun _ k => XS.aload X241.here hx rfl (hb hby d7_54) rfl rfl k) ?_
  show own_go _ _ _ _ _ _ _ (T241.setTop (mkF m 56 #[.val (.ref a1), .val (.int (0 : Int32)), .val (.int (2 : Int32)), .val (.ref b236), .val (.int (0 : Int32)), .val (.ref r239)] [(.ref r239)]))
  exact own_retA X241 hx hlk hret rfl rfl (hb hby d7_56) (by decide) (by decide) (by rw [eq241]; exact ⟨_, _, rfl, N241, K239, (Nat.le_trans K237.1 sz239), Vq239⟩)
theorem own_ef_rm_co_2_1 (m : MethodId) (a1 : Addr) : entryFrame m #[(.ref a1), (.int (0 : Int32)), (.int (2 : Int32))] 6 = mkF m 0 #[.val (.ref a1), .val (.int (0 : Int32)), .val (.int (2 : Int32)), .unset, .unset, .unset] [] := by first | (simp [entryFrame, mkF, argsToLocals, Value.category]; done) | rfl
set_option maxRecDepth 65536 in
set_option maxHeartbeats 40000000 in
theorem rm_co_2_1 (l : Launch) (Z : State) (a0 : Array Value) (hw : ∀ d ∈ tables_1, d.before a0 Z = true) (a1 : Addr) (k1 : ClassId) (c0 c1 : Int32) (zC : Int32) (vS : Value) (h0 : Heap) (n0 : Nat) (O0 : Old Z n0 h0) (hS : own_S Z zC vS) (V1 : Arv Z h0 a1 k1 .char (2 : Int32) [(.int c0), (.int c1)] (.int (0 : Int32))) (hc0 : own_ch c0) (hc1 : own_ch c1) (hl0 : ¬ (255 : Int32) < c0) (hB : (255 : Int32) < c1) :
    own_Met l Z (⟨"java/lang/StringUTF16", "compress", "([CII)[B"⟩ : MethodName) jdk_52_method_16_code 6 (some (.array .byte)) [] ({ frames := 3, cells := 2, slots := 6, locals := 60 } : Room) #[(.ref a1), (.int (0 : Int32)), (.int (2 : Int32))] h0 (fun v h L => ∃ a k, v = some (.ref a) ∧ Fr n0 L ∧ Keep h0 h [] ∧ h0.size ≤ a ∧ Arv Z h a k .byte (4 : Int32) [(.int (c0.toInt8.toInt32)), (.int ((c0 >>> ((8 : Int32) &&& 31)).toInt8.toInt32)), (.int (c1.toInt8.toInt32)), (.int ((c1 >>> ((8 : Int32) &&& 31)).toInt8.toInt32))] (.int (0 : Int32))) := by
  refine own_body own_pn_7 ?_
  intro p e s m below meth c s₁ hx hby hml hown hnm hret hlk X0 hZ e0
  replace hown : s.vm.findClass "java/lang/StringUTF16" = some m.cls := hown
  have N0 := Fr.nil n0
  have K0 := Keep.refl h0 []
  refine oS (fun _ k => castTop (own_ef_rm_co_2_1 m a1) k) ?_
  show own_go _ _ _ _ _ _ _ (s₁.setTop (mkF m 0 #[.val (.ref a1), .val (.int (0 : Int32)), .val (.int (2 : Int32)), .unset, .unset, .unset] []))
  refine oS (fun _ k => XS.iloadN X0.here hx rfl (hb hby d7_0) rfl k) ?_
  show own_go _ _ _ _ _ _ _ (s₁.setTop (mkF m 1 #[.val (.ref a1), .val (.int (0 : Int32)), .val (.int (2 : Int32)), .unset, .unset, .unset] [(.int (2 : Int32))]))
  obtain ⟨T242, h242, k242, b242, X242, e242, g242, E242, V242, st242⟩ := own_newP X0 hx hZ (aty := .byte) (ow hw 19 rfl) e0 (g := (mkF m 1 #[.val (.ref a1), .val (.int (0 : Int32)), .val (.int (2 : Int32)), .unset, .unset, .unset] [(.int (2 : Int32))])) rfl (hb hby d7_1) rfl (by decide) (cap := 2) (by decide) (by decide) (by decide) (by decide)
  replace V242 : Arv Z h242 b242 k242 .byte (2 : Int32) [(.int (0 : Int32)), (.int (0 : Int32))] (.int (0 : Int32)) := V242
  have ge_b242 : n0 ≤ b242 := by rw [g242]; exact own_osz O0
  have sz_b242 : h0.size ≤ b242 := by rw [g242]; exact K0.1
  have ne_a1_b242 : a1 ≠ b242 := (fun q => absurd V1.lt (by rw [q, g242]; exact Nat.lt_irrefl _))
  have O242 := O0.ext E242
  have K242 := K0.ext E242
  refine oS st242 ?_
  show own_go _ _ _ _ _ _ _ (T242.setTop (mkF m 3 #[.val (.ref a1), .val (.int (0 : Int32)), .val (.int (2 : Int32)), .unset, .unset, .unset] [(.ref b242)]))
  refine oS (fun _ k => XS.astoreN X242.here hx rfl (hb hby d7_3) rfl rfl (l' := #[.val (.ref a1), .val (.int (0 : Int32)), .val (.int (2 : Int32)), .val (.ref b242), .unset, .unset]) rfl k) ?_
  refine oS (fun _ k => XS.aloadN X242.here hx rfl (hb hby d7_4) rfl rfl k) ?_
  refine oS (fun _ k => XS.iloadN X242.here hx rfl (hb hby d7_5) rfl k) ?_
  refine oS (fun _ k => XS.aloadN X242.here hx rfl (hb hby d7_6) rfl rfl k) ?_
  refine oS (fun _ k => XS.iconst X242.here hx rfl (hb hby d7_7) k) ?_
  show own_go _ _ _ _ _ _ _ (T242.setTop (mkF m 8 #[.val (.ref a1), .val (.int (0 : Int32)), .val (.int (2 : Int32)), .val (.ref b242), .unset, .unset] [(.int (0 : Int32)), (.ref b242), (.int (0 : Int32)), (.ref a1)]))
  refine oS (fun _ k => XS.iloadN X242.here hx rfl (hb hby d7_8) rfl k) ?_
  show own_go _ _ _ _ _ _ _ (T242.setTop (mkF m 9 #[.val (.ref a1), .val (.int (0 : Int32)), .val (.int (2 : Int32)), .val (.ref b242), .unset, .unset] [(.int (2 : Int32)), (.int (0 : Int32)), (.ref b242), (.int (0 : Int32)), (.ref a1)]))
  have f244 := (V1.ext E242)
  obtain ⟨v243, T243, L243, X243, hQ243, st243⟩ := own_callS X242 hx hZ (argsL := [(.ref a1), (.int (0 : Int32)), (.ref b242), (.int (0 : Int32)), (.int (2 : Int32))]) (rest := []) (rm_ci_2 l Z a0 hw a1 b242 k1 k242 c0 c1 h242 n0 O242 f244 V242 ge_b242 ne_a1_b242) hown (ow hw 40 rfl) (ow hw 41 rfl) (ow hw 38 rfl) (ow hw 42 rfl) (by decide) e242 (g := (mkF m 9 #[.val (.ref a1), .val (.int (0 : Int32)), .val (.int (2 : Int32)), .val (.ref b242), .unset, .unset] [(.int (2 : Int32)), (.int (0 : Int32)), (.ref b242), (.int (0 : Int32)), (.ref a1)])) rfl (by rw [hml]; rfl) (lenOf own_pd__28_5bCI_5bBII_29I rfl) rfl (W := 0) (by show 2 * 0 + _ ≤ _; exact Nat.le_of_eq rfl) (hb hby d7_9) (by decide) (by decide) (by decide) (by decide)
  obtain ⟨z243, rfl, Nq243, Kq243, i0_243, i1_243, i2_243⟩ := hQ243
  have N243 := Fr.app N0 Nq243
  obtain rfl := i1_243 ⟨hl0, hB⟩
  have O243 := O242.keep Kq243 (allS ge_b242 all0)
  have K243 := K242.trans Kq243 (allS (Or.inr sz_b242) all0)
  refine oS st243 ?_
  show own_go _ _ _ _ _ _ _ (T243.setTop (mkF m 12 #[.val (.ref a1), .val (.int (0 : Int32)), .val (.int (2 : Int32)), .val (.ref b242), .unset, .unset] [(.int (1 : Int32))]))
  refine oS (fun _ k => XS.istore X243.here hx rfl (hb hby d7_12) rfl (l' := #[.val (.ref a1), .val (.int (0 : Int32)), .val (.int (2 : Int32)), .val (.ref b242), .val (.int (1 : Int32)), .unset]) rfl k) ?_
  refine oS (fun _ k => XS.iload X243.here hx rfl (hb hby d7_14) rfl k) ?_
  refine oS (fun _ k => XS.iloadN X243.here hx rfl (hb hby d7_16) rfl k) ?_
  show own_go _ _ _ _ _ _ _ (T243.setTop (mkF m 17 #[.val (.ref a1), .val (.int (0 : Int32)), .val (.int (2 : Int32)), .val (.ref b242), .val (.int (1 : Int32)), .unset] [(.int (2 : Int32)), (.int (1 : Int32))]))
  refine oS (fun _ k => XS.icmpNo X243.here hx rfl (hb hby d7_17) rfl (by decide) k) ?_
  refine oS (fun _ k => XS.aloadN X243.here hx rfl (hb hby d7_20) rfl rfl k) ?_
  refine oS (fun _ k => XS.iloadN X243.here hx rfl (hb hby d7_21) rfl k) ?_
  refine oS (fun _ k => XS.iloadN X243.here hx rfl (hb hby d7_22) rfl k) ?_
  show own_go _ _ _ _ _ _ _ (T243.setTop (mkF m 23 #[.val (.ref a1), .val (.int (0 : Int32)), .val (.int (2 : Int32)), .val (.ref b242), .val (.int (1 : Int32)), .unset] [(.int (2 : Int32)), (.int (0 : Int32)), (.ref a1)]))
  have f246 := (f244.keep Kq243 (ninS ne_a1_b242 nin0))
  obtain ⟨v245, T245, L245, X245, hQ245, st245⟩ := own_callS X243 hx hZ (argsL := [(.ref a1), (.int (0 : Int32)), (.int (2 : Int32))]) (rest := []) (rm_tb_2 l Z a0 hw a1 k1 c0 c1 zC vS T243.heap n0 O243 hS f246) hown (ow hw 81 rfl) (ow hw 82 rfl) (ow hw 38 rfl) (ow hw 83 rfl) (by decide) rfl (g := (mkF m 23 #[.val (.ref a1), .val (.int (0 : Int32)), .val (.int (2 : Int32)), .val (.ref b242), .val (.int (1 : Int32)), .unset] [(.int (2 : Int32)), (.int (0 : Int32)), (.ref a1)])) rfl (by rw [hml]; rfl) (lenOf own_pd__28_5bCII_29_5bB rfl) rfl (W := 0) (by show 2 * 0 + _ ≤ _; exact Nat.le_of_eq rfl) (hb hby d7_23) (by decide) (by decide) (by decide) (by decide)
  obtain ⟨r245, kr245, rfl, Nq245, Kq245, sz245, Vq245⟩ := hQ245
  have N245 := Fr.app N243 Nq245
  have ne_a1_r245 : a1 ≠ r245 := (Nat.ne_of_lt (Nat.lt_of_lt_of_le f246.lt sz245))
  have O245 := O243.keep Kq245 all0
  have K245 := K243.trans Kq245 all0
  refine oS st245 ?_
  show own_go _ _ _ _ _ _ _ (T245.setTop (mkF m 26 #[.val (.ref a1), .val (.int (0 : Int32)), .val (.int (2 : Int32)), .val (.ref b242), .val (.int (1 : Int32)), .unset] [(.ref r245)]))
  refine oS (fun _ k => XS.astore X245.here hx rfl (hb hby d7_26) rfl rfl (l' := #[.val (.ref a1), .val (.int (0 : Int32)), .val (.int (2 : Int32)), .val (.ref b242), .val (.int (1 : Int32)), .val (.ref r245)]) rfl k) ?_
  refine oS (fun _ k => XS.aload X245.here hx rfl (hb hby d7_28) rfl rfl k) ?_
  refine oS (fun _ k => XS.iload X245.here hx rfl (hb hby d7_30) rfl k) ?_
  show own_go _ _ _ _ _ _ _ (T245.setTop (mkF m 32 #[.val (.ref a1), .val (.int (0 : Int32)), .val (.int (2 : Int32)), .val (.ref b242), .val (.int (1 : Int32)), .val (.ref r245)] [(.int (1 : Int32)), (.ref r245)]))
  obtain ⟨v247, T247, L247, X247, hQ247, st247⟩ := own_callS X245 hx hZ (argsL := [(.ref r245), (.int (1 : Int32))]) (rest := []) (rm_gc_2_1 l Z a0 hw r245 kr245 c0 c1 zC vS T245.heap n0 O245 hS Vq245 hc1) hown (ow hw 97 rfl) (ow hw 98 rfl) (ow hw 38 rfl) (ow hw 99 rfl) (by decide) rfl (g := (mkF m 32 #[.val (.ref a1), .val (.int (0 : Int32)), .val (.int (2 : Int32)), .val (.ref b242), .val (.int (1 : Int32)), .val (.ref r245)] [(.int (1 : Int32)), (.ref r245)])) rfl (by rw [hml]; rfl) (lenOf own_pd__28_5bBI_29C rfl) rfl (W := 0) (by show 2 * 0 + _ ≤ _; exact Nat.le_of_eq rfl) (hb hby d7_32) (by decide) (by decide) (by decide) (by decide)
  obtain ⟨rfl, Nq247, eq247⟩ := hQ247
  have N247 := Fr.app N245 Nq247
  refine oS st247 ?_
  show own_go _ _ _ _ _ _ _ (T247.setTop (mkF m 35 #[.val (.ref a1), .val (.int (0 : Int32)), .val (.int (2 : Int32)), .val (.ref b242), .val (.int (1 : Int32)), .val (.ref r245)] [(.int c1)]))
  refine oS (fun _ k => XS.sipush X247.here hx rfl (hb hby d7_35) k) ?_
  show own_go _ _ _ _ _ _ _ (T247.setTop (mkF m 38 #[.val (.ref a1), .val (.int (0 : Int32)), .val (.int (2 : Int32)), .val (.ref b242), .val (.int (1 : Int32)), .val (.ref r245)] [(.int (255 : Int32)), (.int c1)]))
  refine oS (fun _ k => XS.icmpYes X247.here hx rfl (pc0 := 38) (pc' := 54) rfl (hb hby d7_38) rfl (XT.ii_gt_t hB) (by decide) (by decide) k) ?_
  refine oS (fun _ k => XS.aload X247.here hx rfl (hb hby d7_54) rfl rfl k) ?_
  show own_go _ _ _ _ _ _ _ (T247.setTop (mkF m 56 #[.val (.ref a1), .val (.int (0 : Int32)), .val (.int (2 : Int32)), .val (.ref b242), .val (.int (1 : Int32)), .val (.ref r245)] [(.ref r245)]))
  exact own_retA X247 hx hlk hret rfl rfl (hb hby d7_56) (by decide) (by decide) (by rw [eq247]; exact ⟨_, _, rfl, N247, K245, (Nat.le_trans K243.1 sz245), Vq245⟩)
theorem own_ef_rm_co_2_2 (m : MethodId) (a1 : Addr) : entryFrame m #[(.ref a1), (.int (0 : Int32)), (.int (2 : Int32))] 6 = mkF m 0 #[.val (.ref a1), .val (.int (0 : Int32)), .val (.int (2 : Int32)), .unset, .unset, .unset] [] := by first | (simp [entryFrame, mkF, argsToLocals, Value.category]; done) | rfl
set_option maxRecDepth 65536 in
set_option maxHeartbeats 40000000 in
theorem rm_co_2_2 (l : Launch) (Z : State) (a0 : Array Value) (hw : ∀ d ∈ tables_1, d.before a0 Z = true) (a1 : Addr) (k1 : ClassId) (c0 c1 : Int32) (zC : Int32) (vS : Value) (h0 : Heap) (n0 : Nat) (O0 : Old Z n0 h0) (hS : own_S Z zC vS) (V1 : Arv Z h0 a1 k1 .char (2 : Int32) [(.int c0), (.int c1)] (.int (0 : Int32))) (hc0 : own_ch c0) (hc1 : own_ch c1) (hl0 : ¬ (255 : Int32) < c0) (hl1 : ¬ (255 : Int32) < c1) :
    own_Met l Z (⟨"java/lang/StringUTF16", "compress", "([CII)[B"⟩ : MethodName) jdk_52_method_16_code 6 (some (.array .byte)) [] ({ frames := 3, cells := 2, slots := 6, locals := 60 } : Room) #[(.ref a1), (.int (0 : Int32)), (.int (2 : Int32))] h0 (fun v h L => ∃ a k, v = some (.ref a) ∧ Fr n0 L ∧ Keep h0 h [] ∧ h0.size ≤ a ∧ Arv Z h a k .byte (2 : Int32) [(.int (c0.toInt8.toInt32)), (.int (c1.toInt8.toInt32))] (.int (0 : Int32))) := by
  refine own_body own_pn_7 ?_
  intro p e s m below meth c s₁ hx hby hml hown hnm hret hlk X0 hZ e0
  replace hown : s.vm.findClass "java/lang/StringUTF16" = some m.cls := hown
  have N0 := Fr.nil n0
  have K0 := Keep.refl h0 []
  refine oS (fun _ k => castTop (own_ef_rm_co_2_2 m a1) k) ?_
  show own_go _ _ _ _ _ _ _ (s₁.setTop (mkF m 0 #[.val (.ref a1), .val (.int (0 : Int32)), .val (.int (2 : Int32)), .unset, .unset, .unset] []))
  refine oS (fun _ k => XS.iloadN X0.here hx rfl (hb hby d7_0) rfl k) ?_
  show own_go _ _ _ _ _ _ _ (s₁.setTop (mkF m 1 #[.val (.ref a1), .val (.int (0 : Int32)), .val (.int (2 : Int32)), .unset, .unset, .unset] [(.int (2 : Int32))]))
  obtain ⟨T248, h248, k248, b248, X248, e248, g248, E248, V248, st248⟩ := own_newP X0 hx hZ (aty := .byte) (ow hw 19 rfl) e0 (g := (mkF m 1 #[.val (.ref a1), .val (.int (0 : Int32)), .val (.int (2 : Int32)), .unset, .unset, .unset] [(.int (2 : Int32))])) rfl (hb hby d7_1) rfl (by decide) (cap := 2) (by decide) (by decide) (by decide) (by decide)
  replace V248 : Arv Z h248 b248 k248 .byte (2 : Int32) [(.int (0 : Int32)), (.int (0 : Int32))] (.int (0 : Int32)) := V248
  have ge_b248 : n0 ≤ b248 := by rw [g248]; exact own_osz O0
  have sz_b248 : h0.size ≤ b248 := by rw [g248]; exact K0.1
  have ne_a1_b248 : a1 ≠ b248 := (fun q => absurd V1.lt (by rw [q, g248]; exact Nat.lt_irrefl _))
  have O248 := O0.ext E248
  have K248 := K0.ext E248
  refine oS st248 ?_
  show own_go _ _ _ _ _ _ _ (T248.setTop (mkF m 3 #[.val (.ref a1), .val (.int (0 : Int32)), .val (.int (2 : Int32)), .unset, .unset, .unset] [(.ref b248)]))
  refine oS (fun _ k => XS.astoreN X248.here hx rfl (hb hby d7_3) rfl rfl (l' := #[.val (.ref a1), .val (.int (0 : Int32)), .val (.int (2 : Int32)), .val (.ref b248), .unset, .unset]) rfl k) ?_
  refine oS (fun _ k => XS.aloadN X248.here hx rfl (hb hby d7_4) rfl rfl k) ?_
  refine oS (fun _ k => XS.iloadN X248.here hx rfl (hb hby d7_5) rfl k) ?_
  refine oS (fun _ k => XS.aloadN X248.here hx rfl (hb hby d7_6) rfl rfl k) ?_
  refine oS (fun _ k => XS.iconst X248.here hx rfl (hb hby d7_7) k) ?_
  show own_go _ _ _ _ _ _ _ (T248.setTop (mkF m 8 #[.val (.ref a1), .val (.int (0 : Int32)), .val (.int (2 : Int32)), .val (.ref b248), .unset, .unset] [(.int (0 : Int32)), (.ref b248), (.int (0 : Int32)), (.ref a1)]))
  refine oS (fun _ k => XS.iloadN X248.here hx rfl (hb hby d7_8) rfl k) ?_
  show own_go _ _ _ _ _ _ _ (T248.setTop (mkF m 9 #[.val (.ref a1), .val (.int (0 : Int32)), .val (.int (2 : Int32)), .val (.ref b248), .unset, .unset] [(.int (2 : Int32)), (.int (0 : Int32)), (.ref b248), (.int (0 : Int32)), (.ref a1)]))
  have f250 := (V1.ext E248)
  obtain ⟨v249, T249, L249, X249, hQ249, st249⟩ := own_callS X248 hx hZ (argsL := [(.ref a1), (.int (0 : Int32)), (.ref b248), (.int (0 : Int32)), (.int (2 : Int32))]) (rest := []) (rm_ci_2 l Z a0 hw a1 b248 k1 k248 c0 c1 h248 n0 O248 f250 V248 ge_b248 ne_a1_b248) hown (ow hw 40 rfl) (ow hw 41 rfl) (ow hw 38 rfl) (ow hw 42 rfl) (by decide) e248 (g := (mkF m 9 #[.val (.ref a1), .val (.int (0 : Int32)), .val (.int (2 : Int32)), .val (.ref b248), .unset, .unset] [(.int (2 : Int32)), (.int (0 : Int32)), (.ref b248), (.int (0 : Int32)), (.ref a1)])) rfl (by rw [hml]; rfl) (lenOf own_pd__28_5bCI_5bBII_29I rfl) rfl (W := 0) (by show 2 * 0 + _ ≤ _; exact Nat.le_of_eq rfl) (hb hby d7_9) (by decide) (by decide) (by decide) (by decide)
  obtain ⟨z249, rfl, Nq249, Kq249, i0_249, i1_249, i2_249⟩ := hQ249
  have N249 := Fr.app N0 Nq249
  obtain ⟨rfl, Vq249⟩ := i2_249 ⟨hl0, hl1⟩
  have O249 := O248.keep Kq249 (allS ge_b248 all0)
  have K249 := K248.trans Kq249 (allS (Or.inr sz_b248) all0)
  refine oS st249 ?_
  show own_go _ _ _ _ _ _ _ (T249.setTop (mkF m 12 #[.val (.ref a1), .val (.int (0 : Int32)), .val (.int (2 : Int32)), .val (.ref b248), .unset, .unset] [(.int (2 : Int32))]))
  refine oS (fun _ k => XS.istore X249.here hx rfl (hb hby d7_12) rfl (l' := #[.val (.ref a1), .val (.int (0 : Int32)), .val (.int (2 : Int32)), .val (.ref b248), .val (.int (2 : Int32)), .unset]) rfl k) ?_
  refine oS (fun _ k => XS.iload X249.here hx rfl (hb hby d7_14) rfl k) ?_
  refine oS (fun _ k => XS.iloadN X249.here hx rfl (hb hby d7_16) rfl k) ?_
  show own_go _ _ _ _ _ _ _ (T249.setTop (mkF m 17 #[.val (.ref a1), .val (.int (0 : Int32)), .val (.int (2 : Int32)), .val (.ref b248), .val (.int (2 : Int32)), .unset] [(.int (2 : Int32)), (.int (2 : Int32))]))
  refine oS (fun _ k => XS.icmpYes X249.here hx rfl (pc0 := 17) (pc' := 57) rfl (hb hby d7_17) rfl (by decide) (by decide) (by decide) k) ?_
  refine oS (fun _ k => XS.aloadN X249.here hx rfl (hb hby d7_57) rfl rfl k) ?_
  show own_go _ _ _ _ _ _ _ (T249.setTop (mkF m 58 #[.val (.ref a1), .val (.int (0 : Int32)), .val (.int (2 : Int32)), .val (.ref b248), .val (.int (2 : Int32)), .unset] [(.ref b248)]))
  exact own_retA X249 hx hlk hret rfl rfl (hb hby d7_58) (by decide) (by decide) ⟨_, _, rfl, N249, K249, sz_b248, Vq249⟩
theorem own_ef_rm_nbl_3 (m : MethodId)  : entryFrame m #[(.int (3 : Int32))] 1 = mkF m 0 #[.val (.int (3 : Int32))] [] := by first | (simp [entryFrame, mkF, argsToLocals, Value.category]; done) | rfl
set_option maxRecDepth 65536 in
set_option maxHeartbeats 40000000 in
theorem rm_nbl_3 (l : Launch) (Z : State) (a0 : Array Value) (hw : ∀ d ∈ tables_1, d.before a0 Z = true)  (h0 : Heap) (n0 : Nat) (O0 : Old Z n0 h0)  :
    own_Met l Z (⟨"java/lang/StringUTF16", "newBytesLength", "(I)I"⟩ : MethodName) jdk_52_method_3_code 1 (some .int) [] ({ frames := 0, cells := 0, slots := 0, locals := 0 } : Room) #[(.int (3 : Int32))] h0 (fun v h L => v = some (.int (6 : Int32)) ∧ Fr n0 L ∧ h = h0) := by
  refine own_body own_pn_20 ?_
  intro p e s m below meth c s₁ hx hby hml hown hnm hret hlk X0 hZ e0
  replace hown : s.vm.findClass "java/lang/StringUTF16" = some m.cls := hown
  have N0 := Fr.nil n0
  have K0 := Keep.refl h0 []
  refine oS (fun _ k => castTop (own_ef_rm_nbl_3 m ) k) ?_
  show own_go _ _ _ _ _ _ _ (s₁.setTop (mkF m 0 #[.val (.int (3 : Int32))] []))
  refine oS (fun _ k => XS.iloadN X0.here hx rfl (hb hby d20_0) rfl k) ?_
  show own_go _ _ _ _ _ _ _ (s₁.setTop (mkF m 1 #[.val (.int (3 : Int32))] [(.int (3 : Int32))]))
  refine oS (fun _ k => XS.ifYes X0.here hx rfl (pc0 := 1) (pc' := 12) rfl (hb hby d20_1) rfl (by decide) (by decide) (by decide) k) ?_
  refine oS (fun _ k => XS.iloadN X0.here hx rfl (hb hby d20_12) rfl k) ?_
  show own_go _ _ _ _ _ _ _ (s₁.setTop (mkF m 13 #[.val (.int (3 : Int32))] [(.int (3 : Int32))]))
  refine oS (X0.ldcInt hx hown (mvT hZ (ow hw 90 rfl)) (g := (mkF m 13 #[.val (.int (3 : Int32))] [(.int (3 : Int32))])) rfl (hb hby d20_13)) ?_
  show own_go _ _ _ _ _ _ _ (s₁.setTop (mkF m 15 #[.val (.int (3 : Int32))] [(.int (1073741823 : Int32)), (.int (3 : Int32))]))
  refine oS (fun _ k => XS.icmpYes X0.here hx rfl (pc0 := 15) (pc' := 55) rfl (hb hby d20_15) rfl (by decide) (by decide) (by decide) k) ?_
  refine oS (fun _ k => XS.iloadN X0.here hx rfl (hb hby d20_55) rfl k) ?_
  refine oS (fun _ k => XS.iconst X0.here hx rfl (hb hby d20_56) k) ?_
  refine oS (fun _ k => XS.ishl X0.here hx rfl (hb hby d20_57) rfl k) ?_
  show own_go _ _ _ _ _ _ _ (s₁.setTop (mkF m 58 #[.val (.int (3 : Int32))] [(.int ((3 : Int32) <<< ((1 : Int32) &&& 31)))]))
  rw [(by decide : ((3 : Int32) <<< ((1 : Int32) &&& 31)) = (6 : Int32))]
  show own_go _ _ _ _ _ _ _ (s₁.setTop (mkF m 58 #[.val (.int (3 : Int32))] [(.int (6 : Int32))]))
  exact own_retI X0 hx hlk hret (hb hby d20_58) (by decide) (by decide) (⟨rfl, N0, e0⟩)
theorem own_ef_rm_nbf_3 (m : MethodId)  : entryFrame m #[(.int (3 : Int32))] 1 = mkF m 0 #[.val (.int (3 : Int32))] [] := by first | (simp [entryFrame, mkF, argsToLocals, Value.category]; done) | rfl
set_option maxRecDepth 65536 in
set_option maxHeartbeats 40000000 in
theorem rm_nbf_3 (l : Launch) (Z : State) (a0 : Array Value) (hw : ∀ d ∈ tables_1, d.before a0 Z = true)  (h0 : Heap) (n0 : Nat) (O0 : Old Z n0 h0)  :
    own_Met l Z (⟨"java/lang/StringUTF16", "newBytesFor", "(I)[B"⟩ : MethodName) jdk_52_method_2_code 1 (some (.array .byte)) [] ({ frames := 1, cells := 1, slots := 6, locals := 16 } : Room) #[(.int (3 : Int32))] h0 (fun v h L => ∃ a k, v = some (.ref a) ∧ Fr n0 L ∧ Keep h0 h [] ∧ h0.size ≤ a ∧ Arv Z h a k .byte (6 : Int32) [(.int (0 : Int32)), (.int (0 : Int32)), (.int (0 : Int32)), (.int (0 : Int32)), (.int (0 : Int32)), (.int (0 : Int32))] (.int (0 : Int32))) := by
  refine own_body own_pn_19 ?_
  intro p e s m below meth c s₁ hx hby hml hown hnm hret hlk X0 hZ e0
  replace hown : s.vm.findClass "java/lang/StringUTF16" = some m.cls := hown
  have N0 := Fr.nil n0
  have K0 := Keep.refl h0 []
  refine oS (fun _ k => castTop (own_ef_rm_nbf_3 m ) k) ?_
  show own_go _ _ _ _ _ _ _ (s₁.setTop (mkF m 0 #[.val (.int (3 : Int32))] []))
  refine oS (fun _ k => XS.iloadN X0.here hx rfl (hb hby d19_0) rfl k) ?_
  show own_go _ _ _ _ _ _ _ (s₁.setTop (mkF m 1 #[.val (.int (3 : Int32))] [(.int (3 : Int32))]))
  obtain ⟨v251, T251, L251, X251, hQ251, st251⟩ := own_callS X0 hx hZ (argsL := [(.int (3 : Int32))]) (rest := []) (rm_nbl_3 l Z a0 hw h0 n0 O0) hown (ow hw 87 rfl) (ow hw 88 rfl) (ow hw 38 rfl) (ow hw 89 rfl) (by decide) e0 (g := (mkF m 1 #[.val (.int (3 : Int32))] [(.int (3 : Int32))])) rfl (by rw [hml]; rfl) (lenOf own_pd__28I_29I rfl) rfl (W := 0) (by show 2 * 0 + _ ≤ _; exact Nat.le_of_eq rfl) (hb hby d19_1) (by decide) (by decide) (by decide) (by decide)
  obtain ⟨rfl, Nq251, eq251⟩ := hQ251
  have N251 := Fr.app N0 Nq251
  refine oS st251 ?_
  show own_go _ _ _ _ _ _ _ (T251.setTop (mkF m 4 #[.val (.int (3 : Int32))] [(.int (6 : Int32))]))
  obtain ⟨T252, h252, k252, b252, X252, e252, g252, E252, V252, st252⟩ := own_newP X251 hx hZ (aty := .byte) (ow hw 19 rfl) eq251 (g := (mkF m 4 #[.val (.int (3 : Int32))] [(.int (6 : Int32))])) rfl (hb hby d19_4) rfl (by decide) (cap := 6) (by decide) (by decide) (by decide) (by decide)
  replace V252 : Arv Z h252 b252 k252 .byte (6 : Int32) [(.int (0 : Int32)), (.int (0 : Int32)), (.int (0 : Int32)), (.int (0 : Int32)), (.int (0 : Int32)), (.int (0 : Int32))] (.int (0 : Int32)) := V252
  have ge_b252 : n0 ≤ b252 := by rw [g252]; exact own_osz O0
  have sz_b252 : h0.size ≤ b252 := by rw [g252]; exact K0.1
  have O252 := O0.ext E252
  have K252 := K0.ext E252
  refine oS st252 ?_
  show own_go _ _ _ _ _ _ _ (T252.setTop (mkF m 6 #[.val (.int (3 : Int32))] [(.ref b252)]))
  exact own_retA X252 hx hlk hret rfl rfl (hb hby d19_6) (by decide) (by decide) (by rw [e252]; exact ⟨_, _, rfl, N251, K252, sz_b252, V252⟩)
theorem own_ef_rm_pc_3_0 (m : MethodId) (a1 : Addr) (y : Int32) : entryFrame m #[(.ref a1), (.int (0 : Int32)), (.int y)] 3 = mkF m 0 #[.val (.ref a1), .val (.int (0 : Int32)), .val (.int y)] [] := by first | (simp [entryFrame, mkF, argsToLocals, Value.category]; done) | rfl
set_option maxRecDepth 65536 in
set_option maxHeartbeats 40000000 in
theorem rm_pc_3_0 (l : Launch) (Z : State) (a0 : Array Value) (hw : ∀ d ∈ tables_1, d.before a0 Z = true) (a1 : Addr) (k1 : ClassId) (y x0 x1 x2 x3 x4 x5 : Int32) (zC : Int32) (vS : Value) (h0 : Heap) (n0 : Nat) (O0 : Old Z n0 h0) (hS : own_S Z zC vS) (ge_a1 : n0 ≤ a1) (V1 : Arv Z h0 a1 k1 .byte (6 : Int32) [(.int x0), (.int x1), (.int x2), (.int x3), (.int x4), (.int x5)] (.int (0 : Int32))) :
    own_Met l Z (⟨"java/lang/StringUTF16", "putChar", "([BII)V"⟩ : MethodName) jdk_52_method_4_code 3 none [] ({ frames := 0, cells := 0, slots := 0, locals := 0 } : Room) #[(.ref a1), (.int (0 : Int32)), (.int y)] h0 (fun v h L => v = none ∧ Fr n0 L ∧ Keep h0 h [a1] ∧ Arv Z h a1 k1 .byte (6 : Int32) [(.int (y.toInt8.toInt32)), (.int ((y >>> ((8 : Int32) &&& 31)).toInt8.toInt32)), (.int x2), (.int x3), (.int x4), (.int x5)] (.int (0 : Int32))) := by
  refine own_body own_pn_21 ?_
  intro p e s m below meth c s₁ hx hby hml hown hnm hret hlk X0 hZ e0
  replace hown : s.vm.findClass "java/lang/StringUTF16" = some m.cls := hown
  have N0 := Fr.nil n0
  have K0 := Keep.refl h0 [a1]
  refine oS (fun _ k => castTop (own_ef_rm_pc_3_0 m a1 y) k) ?_
  show own_go _ _ _ _ _ _ _ (s₁.setTop (mkF m 0 #[.val (.ref a1), .val (.int (0 : Int32)), .val (.int y)] []))
  obtain ⟨T253, X253, e253, st253⟩ := getS2 X0 hx hZ hown (host := "") (Or.inl (ow hw 94 rfl)) Via.refl e0 (hS.2.2.2.2.1.ext O0.2) (g := (mkF m 0 #[.val (.ref a1), .val (.int (0 : Int32)), .val (.int y)] [])) rfl (hb hby d21_0)
  refine oS st253 ?_
  show own_go _ _ _ _ _ _ _ (T253.setTop (mkF m 3 #[.val (.ref a1), .val (.int (0 : Int32)), .val (.int y)] [(.int (1 : Int32))]))
  refine oS (fun _ k => XS.ifYes X253.here hx rfl (pc0 := 3) (pc' := 28) rfl (hb hby d21_3) rfl (by decide) (by decide) (by decide) k) ?_
  refine oS (fun _ k => XS.iloadN X253.here hx rfl (hb hby d21_28) rfl k) ?_
  refine oS (fun _ k => XS.iconst X253.here hx rfl (hb hby d21_29) k) ?_
  refine oS (fun _ k => XS.ishl X253.here hx rfl (hb hby d21_30) rfl k) ?_
  show own_go _ _ _ _ _ _ _ (T253.setTop (mkF m 31 #[.val (.ref a1), .val (.int (0 : Int32)), .val (.int y)] [(.int ((0 : Int32) <<< ((1 : Int32) &&& 31)))]))
  rw [(by decide : ((0 : Int32) <<< ((1 : Int32) &&& 31)) = (0 : Int32))]
  show own_go _ _ _ _ _ _ _ (T253.setTop (mkF m 31 #[.val (.ref a1), .val (.int (0 : Int32)), .val (.int y)] [(.int (0 : Int32))]))
  refine oS (fun _ k => XS.istoreN X253.here hx rfl (hb hby d21_31) rfl (l' := #[.val (.ref a1), .val (.int (0 : Int32)), .val (.int y)]) rfl k) ?_
  refine oS (fun _ k => XS.aloadN X253.here hx rfl (hb hby d21_32) rfl rfl k) ?_
  refine oS (fun _ k => XS.iloadN X253.here hx rfl (hb hby d21_33) rfl k) ?_
  refine oS (fun _ k => XS.iinc X253.here hx rfl (hb hby d21_34) rfl (l' := #[.val (.ref a1), .val (.int (1 : Int32)), .val (.int y)]) rfl k) ?_
  refine oS (fun _ k => XS.iloadN X253.here hx rfl (hb hby d21_37) rfl k) ?_
  show own_go _ _ _ _ _ _ _ (T253.setTop (mkF m 38 #[.val (.ref a1), .val (.int (1 : Int32)), .val (.int y)] [(.int y), (.int (0 : Int32)), (.ref a1)]))
  obtain ⟨T254, X254, e254, st254⟩ := getS2 X253 hx hZ hown (host := "") (Or.inl (ow hw 95 rfl)) Via.refl e253 (hS.2.2.2.2.2.1.ext O0.2) (g := (mkF m 38 #[.val (.ref a1), .val (.int (1 : Int32)), .val (.int y)] [(.int y), (.int (0 : Int32)), (.ref a1)])) rfl (hb hby d21_38)
  refine oS st254 ?_
  show own_go _ _ _ _ _ _ _ (T254.setTop (mkF m 41 #[.val (.ref a1), .val (.int (1 : Int32)), .val (.int y)] [(.int (0 : Int32)), (.int y), (.int (0 : Int32)), (.ref a1)]))
  refine oS (fun _ k => XS.ishr X254.here hx rfl (hb hby d21_41) rfl k) ?_
  show own_go _ _ _ _ _ _ _ (T254.setTop (mkF m 42 #[.val (.ref a1), .val (.int (1 : Int32)), .val (.int y)] [(.int (y >>> ((0 : Int32) &&& 31))), (.int (0 : Int32)), (.ref a1)]))
  rw [(StrChars.shr0 y)]
  show own_go _ _ _ _ _ _ _ (T254.setTop (mkF m 42 #[.val (.ref a1), .val (.int (1 : Int32)), .val (.int y)] [(.int y), (.int (0 : Int32)), (.ref a1)]))
  refine oS (fun _ k => XS.i2b X254.here hx rfl (hb hby d21_42) rfl k) ?_
  show own_go _ _ _ _ _ _ _ (T254.setTop (mkF m 43 #[.val (.ref a1), .val (.int (1 : Int32)), .val (.int y)] [(.int (y.toInt8.toInt32)), (.int (0 : Int32)), (.ref a1)]))
  obtain ⟨T255, h255, X255, e255, W255, V255, st255⟩ := own_putB X254 hx hZ e254 V1 (y := (y.toInt8.toInt32)) (own_nb8 _) (j := (0 : Int32)) (by decide) 0 (by decide) (by show 0 < 6; decide) (g := (mkF m 43 #[.val (.ref a1), .val (.int (1 : Int32)), .val (.int y)] [(.int (y.toInt8.toInt32)), (.int (0 : Int32)), (.ref a1)])) rfl rfl (hb hby d21_43)
  have N255 := Fr.snoc X255 N0 ge_a1
  replace V255 : Arv Z h255 a1 k1 .byte (6 : Int32) [(.int (y.toInt8.toInt32)), (.int x1), (.int x2), (.int x3), (.int x4), (.int x5)] (.int (0 : Int32)) := V255
  have O256 := O0.wr W255 ge_a1
  have K256 := K0.wr W255 (Or.inl (List.mem_of_getElem? (i := 0) rfl))
  refine oS st255 ?_
  show own_go _ _ _ _ _ _ _ (T255.setTop (mkF m 44 #[.val (.ref a1), .val (.int (1 : Int32)), .val (.int y)] []))
  refine oS (fun _ k => XS.aloadN X255.here hx rfl (hb hby d21_44) rfl rfl k) ?_
  refine oS (fun _ k => XS.iloadN X255.here hx rfl (hb hby d21_45) rfl k) ?_
  refine oS (fun _ k => XS.iloadN X255.here hx rfl (hb hby d21_46) rfl k) ?_
  show own_go _ _ _ _ _ _ _ (T255.setTop (mkF m 47 #[.val (.ref a1), .val (.int (1 : Int32)), .val (.int y)] [(.int y), (.int (1 : Int32)), (.ref a1)]))
  obtain ⟨T257, X257, e257, st257⟩ := getS2 X255 hx hZ hown (host := "") (Or.inl (ow hw 96 rfl)) Via.refl e255 (hS.2.2.2.2.2.2.ext O256.2) (g := (mkF m 47 #[.val (.ref a1), .val (.int (1 : Int32)), .val (.int y)] [(.int y), (.int (1 : Int32)), (.ref a1)])) rfl (hb hby d21_47)
  refine oS st257 ?_
  show own_go _ _ _ _ _ _ _ (T257.setTop (mkF m 50 #[.val (.ref a1), .val (.int (1 : Int32)), .val (.int y)] [(.int (8 : Int32)), (.int y), (.int (1 : Int32)), (.ref a1)]))
  refine oS (fun _ k => XS.ishr X257.here hx rfl (hb hby d21_50) rfl k) ?_
  refine oS (fun _ k => XS.i2b X257.here hx rfl (hb hby d21_51) rfl k) ?_
  show own_go _ _ _ _ _ _ _ (T257.setTop (mkF m 52 #[.val (.ref a1), .val (.int (1 : Int32)), .val (.int y)] [(.int ((y >>> ((8 : Int32) &&& 31)).toInt8.toInt32)), (.int (1 : Int32)), (.ref a1)]))
  obtain ⟨T258, h258, X258, e258, W258, V258, st258⟩ := own_putB X257 hx hZ e257 V255 (y := ((y >>> ((8 : Int32) &&& 31)).toInt8.toInt32)) (own_nb8 _) (j := (1 : Int32)) (by decide) 1 (by decide) (by show 1 < 6; decide) (g := (mkF m 52 #[.val (.ref a1), .val (.int (1 : Int32)), .val (.int y)] [(.int ((y >>> ((8 : Int32) &&& 31)).toInt8.toInt32)), (.int (1 : Int32)), (.ref a1)])) rfl rfl (hb hby d21_52)
  have N258 := Fr.snoc X258 N255 ge_a1
  replace V258 : Arv Z h258 a1 k1 .byte (6 : Int32) [(.int (y.toInt8.toInt32)), (.int ((y >>> ((8 : Int32) &&& 31)).toInt8.toInt32)), (.int x2), (.int x3), (.int x4), (.int x5)] (.int (0 : Int32)) := V258
  have O259 := O256.wr W258 ge_a1
  have K259 := K256.wr W258 (Or.inl (List.mem_of_getElem? (i := 0) rfl))
  refine oS st258 ?_
  show own_go _ _ _ _ _ _ _ (T258.setTop (mkF m 53 #[.val (.ref a1), .val (.int (1 : Int32)), .val (.int y)] []))
  exact own_ret0 X258 hx hlk hret (hb hby d21_53) (by decide) (by decide) (by rw [e258]; exact ⟨rfl, N258, K259, V258⟩)
theorem own_ef_rm_pc_3_1 (m : MethodId) (a1 : Addr) (y : Int32) : entryFrame m #[(.ref a1), (.int (1 : Int32)), (.int y)] 3 = mkF m 0 #[.val (.ref a1), .val (.int (1 : Int32)), .val (.int y)] [] := by first | (simp [entryFrame, mkF, argsToLocals, Value.category]; done) | rfl
set_option maxRecDepth 65536 in
set_option maxHeartbeats 40000000 in
theorem rm_pc_3_1 (l : Launch) (Z : State) (a0 : Array Value) (hw : ∀ d ∈ tables_1, d.before a0 Z = true) (a1 : Addr) (k1 : ClassId) (y x0 x1 x2 x3 x4 x5 : Int32) (zC : Int32) (vS : Value) (h0 : Heap) (n0 : Nat) (O0 : Old Z n0 h0) (hS : own_S Z zC vS) (ge_a1 : n0 ≤ a1) (V1 : Arv Z h0 a1 k1 .byte (6 : Int32) [(.int x0), (.int x1), (.int x2), (.int x3), (.int x4), (.int x5)] (.int (0 : Int32))) :
    own_Met l Z (⟨"java/lang/StringUTF16", "putChar", "([BII)V"⟩ : MethodName) jdk_52_method_4_code 3 none [] ({ frames := 0, cells := 0, slots := 0, locals := 0 } : Room) #[(.ref a1), (.int (1 : Int32)), (.int y)] h0 (fun v h L => v = none ∧ Fr n0 L ∧ Keep h0 h [a1] ∧ Arv Z h a1 k1 .byte (6 : Int32) [(.int x0), (.int x1), (.int (y.toInt8.toInt32)), (.int ((y >>> ((8 : Int32) &&& 31)).toInt8.toInt32)), (.int x4), (.int x5)] (.int (0 : Int32))) := by
  refine own_body own_pn_21 ?_
  intro p e s m below meth c s₁ hx hby hml hown hnm hret hlk X0 hZ e0
  replace hown : s.vm.findClass "java/lang/StringUTF16" = some m.cls := hown
  have N0 := Fr.nil n0
  have K0 := Keep.refl h0 [a1]
  refine oS (fun _ k => castTop (own_ef_rm_pc_3_1 m a1 y) k) ?_
  show own_go _ _ _ _ _ _ _ (s₁.setTop (mkF m 0 #[.val (.ref a1), .val (.int (1 : Int32)), .val (.int y)] []))
  obtain ⟨T260, X260, e260, st260⟩ := getS2 X0 hx hZ hown (host := "") (Or.inl (ow hw 94 rfl)) Via.refl e0 (hS.2.2.2.2.1.ext O0.2) (g := (mkF m 0 #[.val (.ref a1), .val (.int (1 : Int32)), .val (.int y)] [])) rfl (hb hby d21_0)
  refine oS st260 ?_
  show own_go _ _ _ _ _ _ _ (T260.setTop (mkF m 3 #[.val (.ref a1), .val (.int (1 : Int32)), .val (.int y)] [(.int (1 : Int32))]))
  refine oS (fun _ k => XS.ifYes X260.here hx rfl (pc0 := 3) (pc' := 28) rfl (hb hby d21_3) rfl (by decide) (by decide) (by decide) k) ?_
  refine oS (fun _ k => XS.iloadN X260.here hx rfl (hb hby d21_28) rfl k) ?_
  refine oS (fun _ k => XS.iconst X260.here hx rfl (hb hby d21_29) k) ?_
  refine oS (fun _ k => XS.ishl X260.here hx rfl (hb hby d21_30) rfl k) ?_
  show own_go _ _ _ _ _ _ _ (T260.setTop (mkF m 31 #[.val (.ref a1), .val (.int (1 : Int32)), .val (.int y)] [(.int ((1 : Int32) <<< ((1 : Int32) &&& 31)))]))
  rw [(by decide : ((1 : Int32) <<< ((1 : Int32) &&& 31)) = (2 : Int32))]
  show own_go _ _ _ _ _ _ _ (T260.setTop (mkF m 31 #[.val (.ref a1), .val (.int (1 : Int32)), .val (.int y)] [(.int (2 : Int32))]))
  refine oS (fun _ k => XS.istoreN X260.here hx rfl (hb hby d21_31) rfl (l' := #[.val (.ref a1), .val (.int (2 : Int32)), .val (.int y)]) rfl k) ?_
  refine oS (fun _ k => XS.aloadN X260.here hx rfl (hb hby d21_32) rfl rfl k) ?_
  refine oS (fun _ k => XS.iloadN X260.here hx rfl (hb hby d21_33) rfl k) ?_
  refine oS (fun _ k => XS.iinc X260.here hx rfl (hb hby d21_34) rfl (l' := #[.val (.ref a1), .val (.int (3 : Int32)), .val (.int y)]) rfl k) ?_
  refine oS (fun _ k => XS.iloadN X260.here hx rfl (hb hby d21_37) rfl k) ?_
  show own_go _ _ _ _ _ _ _ (T260.setTop (mkF m 38 #[.val (.ref a1), .val (.int (3 : Int32)), .val (.int y)] [(.int y), (.int (2 : Int32)), (.ref a1)]))
  obtain ⟨T261, X261, e261, st261⟩ := getS2 X260 hx hZ hown (host := "") (Or.inl (ow hw 95 rfl)) Via.refl e260 (hS.2.2.2.2.2.1.ext O0.2) (g := (mkF m 38 #[.val (.ref a1), .val (.int (3 : Int32)), .val (.int y)] [(.int y), (.int (2 : Int32)), (.ref a1)])) rfl (hb hby d21_38)
  refine oS st261 ?_
  show own_go _ _ _ _ _ _ _ (T261.setTop (mkF m 41 #[.val (.ref a1), .val (.int (3 : Int32)), .val (.int y)] [(.int (0 : Int32)), (.int y), (.int (2 : Int32)), (.ref a1)]))
  refine oS (fun _ k => XS.ishr X261.here hx rfl (hb hby d21_41) rfl k) ?_
  show own_go _ _ _ _ _ _ _ (T261.setTop (mkF m 42 #[.val (.ref a1), .val (.int (3 : Int32)), .val (.int y)] [(.int (y >>> ((0 : Int32) &&& 31))), (.int (2 : Int32)), (.ref a1)]))
  rw [(StrChars.shr0 y)]
  show own_go _ _ _ _ _ _ _ (T261.setTop (mkF m 42 #[.val (.ref a1), .val (.int (3 : Int32)), .val (.int y)] [(.int y), (.int (2 : Int32)), (.ref a1)]))
  refine oS (fun _ k => XS.i2b X261.here hx rfl (hb hby d21_42) rfl k) ?_
  show own_go _ _ _ _ _ _ _ (T261.setTop (mkF m 43 #[.val (.ref a1), .val (.int (3 : Int32)), .val (.int y)] [(.int (y.toInt8.toInt32)), (.int (2 : Int32)), (.ref a1)]))
  obtain ⟨T262, h262, X262, e262, W262, V262, st262⟩ := own_putB X261 hx hZ e261 V1 (y := (y.toInt8.toInt32)) (own_nb8 _) (j := (2 : Int32)) (by decide) 2 (by decide) (by show 2 < 6; decide) (g := (mkF m 43 #[.val (.ref a1), .val (.int (3 : Int32)), .val (.int y)] [(.int (y.toInt8.toInt32)), (.int (2 : Int32)), (.ref a1)])) rfl rfl (hb hby d21_43)
  have N262 := Fr.snoc X262 N0 ge_a1
  replace V262 : Arv Z h262 a1 k1 .byte (6 : Int32) [(.int x0), (.int x1), (.int (y.toInt8.toInt32)), (.int x3), (.int x4), (.int x5)] (.int (0 : Int32)) := V262
  have O263 := O0.wr W262 ge_a1
  have K263 := K0.wr W262 (Or.inl (List.mem_of_getElem? (i := 0) rfl))
  refine oS st262 ?_
  show own_go _ _ _ _ _ _ _ (T262.setTop (mkF m 44 #[.val (.ref a1), .val (.int (3 : Int32)), .val (.int y)] []))
  refine oS (fun _ k => XS.aloadN X262.here hx rfl (hb hby d21_44) rfl rfl k) ?_
  refine oS (fun _ k => XS.iloadN X262.here hx rfl (hb hby d21_45) rfl k) ?_
  refine oS (fun _ k => XS.iloadN X262.here hx rfl (hb hby d21_46) rfl k) ?_
  show own_go _ _ _ _ _ _ _ (T262.setTop (mkF m 47 #[.val (.ref a1), .val (.int (3 : Int32)), .val (.int y)] [(.int y), (.int (3 : Int32)), (.ref a1)]))
  obtain ⟨T264, X264, e264, st264⟩ := getS2 X262 hx hZ hown (host := "") (Or.inl (ow hw 96 rfl)) Via.refl e262 (hS.2.2.2.2.2.2.ext O263.2) (g := (mkF m 47 #[.val (.ref a1), .val (.int (3 : Int32)), .val (.int y)] [(.int y), (.int (3 : Int32)), (.ref a1)])) rfl (hb hby d21_47)
  refine oS st264 ?_
  show own_go _ _ _ _ _ _ _ (T264.setTop (mkF m 50 #[.val (.ref a1), .val (.int (3 : Int32)), .val (.int y)] [(.int (8 : Int32)), (.int y), (.int (3 : Int32)), (.ref a1)]))
  refine oS (fun _ k => XS.ishr X264.here hx rfl (hb hby d21_50) rfl k) ?_
  refine oS (fun _ k => XS.i2b X264.here hx rfl (hb hby d21_51) rfl k) ?_
  show own_go _ _ _ _ _ _ _ (T264.setTop (mkF m 52 #[.val (.ref a1), .val (.int (3 : Int32)), .val (.int y)] [(.int ((y >>> ((8 : Int32) &&& 31)).toInt8.toInt32)), (.int (3 : Int32)), (.ref a1)]))
  obtain ⟨T265, h265, X265, e265, W265, V265, st265⟩ := own_putB X264 hx hZ e264 V262 (y := ((y >>> ((8 : Int32) &&& 31)).toInt8.toInt32)) (own_nb8 _) (j := (3 : Int32)) (by decide) 3 (by decide) (by show 3 < 6; decide) (g := (mkF m 52 #[.val (.ref a1), .val (.int (3 : Int32)), .val (.int y)] [(.int ((y >>> ((8 : Int32) &&& 31)).toInt8.toInt32)), (.int (3 : Int32)), (.ref a1)])) rfl rfl (hb hby d21_52)
  have N265 := Fr.snoc X265 N262 ge_a1
  replace V265 : Arv Z h265 a1 k1 .byte (6 : Int32) [(.int x0), (.int x1), (.int (y.toInt8.toInt32)), (.int ((y >>> ((8 : Int32) &&& 31)).toInt8.toInt32)), (.int x4), (.int x5)] (.int (0 : Int32)) := V265
  have O266 := O263.wr W265 ge_a1
  have K266 := K263.wr W265 (Or.inl (List.mem_of_getElem? (i := 0) rfl))
  refine oS st265 ?_
  show own_go _ _ _ _ _ _ _ (T265.setTop (mkF m 53 #[.val (.ref a1), .val (.int (3 : Int32)), .val (.int y)] []))
  exact own_ret0 X265 hx hlk hret (hb hby d21_53) (by decide) (by decide) (by rw [e265]; exact ⟨rfl, N265, K266, V265⟩)
theorem own_ef_rm_pc_3_2 (m : MethodId) (a1 : Addr) (y : Int32) : entryFrame m #[(.ref a1), (.int (2 : Int32)), (.int y)] 3 = mkF m 0 #[.val (.ref a1), .val (.int (2 : Int32)), .val (.int y)] [] := by first | (simp [entryFrame, mkF, argsToLocals, Value.category]; done) | rfl
set_option maxRecDepth 65536 in
set_option maxHeartbeats 40000000 in
theorem rm_pc_3_2 (l : Launch) (Z : State) (a0 : Array Value) (hw : ∀ d ∈ tables_1, d.before a0 Z = true) (a1 : Addr) (k1 : ClassId) (y x0 x1 x2 x3 x4 x5 : Int32) (zC : Int32) (vS : Value) (h0 : Heap) (n0 : Nat) (O0 : Old Z n0 h0) (hS : own_S Z zC vS) (ge_a1 : n0 ≤ a1) (V1 : Arv Z h0 a1 k1 .byte (6 : Int32) [(.int x0), (.int x1), (.int x2), (.int x3), (.int x4), (.int x5)] (.int (0 : Int32))) :
    own_Met l Z (⟨"java/lang/StringUTF16", "putChar", "([BII)V"⟩ : MethodName) jdk_52_method_4_code 3 none [] ({ frames := 0, cells := 0, slots := 0, locals := 0 } : Room) #[(.ref a1), (.int (2 : Int32)), (.int y)] h0 (fun v h L => v = none ∧ Fr n0 L ∧ Keep h0 h [a1] ∧ Arv Z h a1 k1 .byte (6 : Int32) [(.int x0), (.int x1), (.int x2), (.int x3), (.int (y.toInt8.toInt32)), (.int ((y >>> ((8 : Int32) &&& 31)).toInt8.toInt32))] (.int (0 : Int32))) := by
  refine own_body own_pn_21 ?_
  intro p e s m below meth c s₁ hx hby hml hown hnm hret hlk X0 hZ e0
  replace hown : s.vm.findClass "java/lang/StringUTF16" = some m.cls := hown
  have N0 := Fr.nil n0
  have K0 := Keep.refl h0 [a1]
  refine oS (fun _ k => castTop (own_ef_rm_pc_3_2 m a1 y) k) ?_
  show own_go _ _ _ _ _ _ _ (s₁.setTop (mkF m 0 #[.val (.ref a1), .val (.int (2 : Int32)), .val (.int y)] []))
  obtain ⟨T267, X267, e267, st267⟩ := getS2 X0 hx hZ hown (host := "") (Or.inl (ow hw 94 rfl)) Via.refl e0 (hS.2.2.2.2.1.ext O0.2) (g := (mkF m 0 #[.val (.ref a1), .val (.int (2 : Int32)), .val (.int y)] [])) rfl (hb hby d21_0)
  refine oS st267 ?_
  show own_go _ _ _ _ _ _ _ (T267.setTop (mkF m 3 #[.val (.ref a1), .val (.int (2 : Int32)), .val (.int y)] [(.int (1 : Int32))]))
  refine oS (fun _ k => XS.ifYes X267.here hx rfl (pc0 := 3) (pc' := 28) rfl (hb hby d21_3) rfl (by decide) (by decide) (by decide) k) ?_
  refine oS (fun _ k => XS.iloadN X267.here hx rfl (hb hby d21_28) rfl k) ?_
  refine oS (fun _ k => XS.iconst X267.here hx rfl (hb hby d21_29) k) ?_
  refine oS (fun _ k => XS.ishl X267.here hx rfl (hb hby d21_30) rfl k) ?_
  show own_go _ _ _ _ _ _ _ (T267.setTop (mkF m 31 #[.val (.ref a1), .val (.int (2 : Int32)), .val (.int y)] [(.int ((2 : Int32) <<< ((1 : Int32) &&& 31)))]))
  rw [(by decide : ((2 : Int32) <<< ((1 : Int32) &&& 31)) = (4 : Int32))]
  show own_go _ _ _ _ _ _ _ (T267.setTop (mkF m 31 #[.val (.ref a1), .val (.int (2 : Int32)), .val (.int y)] [(.int (4 : Int32))]))
  refine oS (fun _ k => XS.istoreN X267.here hx rfl (hb hby d21_31) rfl (l' := #[.val (.ref a1), .val (.int (4 : Int32)), .val (.int y)]) rfl k) ?_
  refine oS (fun _ k => XS.aloadN X267.here hx rfl (hb hby d21_32) rfl rfl k) ?_
  refine oS (fun _ k => XS.iloadN X267.here hx rfl (hb hby d21_33) rfl k) ?_
  refine oS (fun _ k => XS.iinc X267.here hx rfl (hb hby d21_34) rfl (l' := #[.val (.ref a1), .val (.int (5 : Int32)), .val (.int y)]) rfl k) ?_
  refine oS (fun _ k => XS.iloadN X267.here hx rfl (hb hby d21_37) rfl k) ?_
  show own_go _ _ _ _ _ _ _ (T267.setTop (mkF m 38 #[.val (.ref a1), .val (.int (5 : Int32)), .val (.int y)] [(.int y), (.int (4 : Int32)), (.ref a1)]))
  obtain ⟨T268, X268, e268, st268⟩ := getS2 X267 hx hZ hown (host := "") (Or.inl (ow hw 95 rfl)) Via.refl e267 (hS.2.2.2.2.2.1.ext O0.2) (g := (mkF m 38 #[.val (.ref a1), .val (.int (5 : Int32)), .val (.int y)] [(.int y), (.int (4 : Int32)), (.ref a1)])) rfl (hb hby d21_38)
  refine oS st268 ?_
  show own_go _ _ _ _ _ _ _ (T268.setTop (mkF m 41 #[.val (.ref a1), .val (.int (5 : Int32)), .val (.int y)] [(.int (0 : Int32)), (.int y), (.int (4 : Int32)), (.ref a1)]))
  refine oS (fun _ k => XS.ishr X268.here hx rfl (hb hby d21_41) rfl k) ?_
  show own_go _ _ _ _ _ _ _ (T268.setTop (mkF m 42 #[.val (.ref a1), .val (.int (5 : Int32)), .val (.int y)] [(.int (y >>> ((0 : Int32) &&& 31))), (.int (4 : Int32)), (.ref a1)]))
  rw [(StrChars.shr0 y)]
  show own_go _ _ _ _ _ _ _ (T268.setTop (mkF m 42 #[.val (.ref a1), .val (.int (5 : Int32)), .val (.int y)] [(.int y), (.int (4 : Int32)), (.ref a1)]))
  refine oS (fun _ k => XS.i2b X268.here hx rfl (hb hby d21_42) rfl k) ?_
  show own_go _ _ _ _ _ _ _ (T268.setTop (mkF m 43 #[.val (.ref a1), .val (.int (5 : Int32)), .val (.int y)] [(.int (y.toInt8.toInt32)), (.int (4 : Int32)), (.ref a1)]))
  obtain ⟨T269, h269, X269, e269, W269, V269, st269⟩ := own_putB X268 hx hZ e268 V1 (y := (y.toInt8.toInt32)) (own_nb8 _) (j := (4 : Int32)) (by decide) 4 (by decide) (by show 4 < 6; decide) (g := (mkF m 43 #[.val (.ref a1), .val (.int (5 : Int32)), .val (.int y)] [(.int (y.toInt8.toInt32)), (.int (4 : Int32)), (.ref a1)])) rfl rfl (hb hby d21_43)
  have N269 := Fr.snoc X269 N0 ge_a1
  replace V269 : Arv Z h269 a1 k1 .byte (6 : Int32) [(.int x0), (.int x1), (.int x2), (.int x3), (.int (y.toInt8.toInt32)), (.int x5)] (.int (0 : Int32)) := V269
  have O270 := O0.wr W269 ge_a1
  have K270 := K0.wr W269 (Or.inl (List.mem_of_getElem? (i := 0) rfl))
  refine oS st269 ?_
  show own_go _ _ _ _ _ _ _ (T269.setTop (mkF m 44 #[.val (.ref a1), .val (.int (5 : Int32)), .val (.int y)] []))
  refine oS (fun _ k => XS.aloadN X269.here hx rfl (hb hby d21_44) rfl rfl k) ?_
  refine oS (fun _ k => XS.iloadN X269.here hx rfl (hb hby d21_45) rfl k) ?_
  refine oS (fun _ k => XS.iloadN X269.here hx rfl (hb hby d21_46) rfl k) ?_
  show own_go _ _ _ _ _ _ _ (T269.setTop (mkF m 47 #[.val (.ref a1), .val (.int (5 : Int32)), .val (.int y)] [(.int y), (.int (5 : Int32)), (.ref a1)]))
  obtain ⟨T271, X271, e271, st271⟩ := getS2 X269 hx hZ hown (host := "") (Or.inl (ow hw 96 rfl)) Via.refl e269 (hS.2.2.2.2.2.2.ext O270.2) (g := (mkF m 47 #[.val (.ref a1), .val (.int (5 : Int32)), .val (.int y)] [(.int y), (.int (5 : Int32)), (.ref a1)])) rfl (hb hby d21_47)
  refine oS st271 ?_
  show own_go _ _ _ _ _ _ _ (T271.setTop (mkF m 50 #[.val (.ref a1), .val (.int (5 : Int32)), .val (.int y)] [(.int (8 : Int32)), (.int y), (.int (5 : Int32)), (.ref a1)]))
  refine oS (fun _ k => XS.ishr X271.here hx rfl (hb hby d21_50) rfl k) ?_
  refine oS (fun _ k => XS.i2b X271.here hx rfl (hb hby d21_51) rfl k) ?_
  show own_go _ _ _ _ _ _ _ (T271.setTop (mkF m 52 #[.val (.ref a1), .val (.int (5 : Int32)), .val (.int y)] [(.int ((y >>> ((8 : Int32) &&& 31)).toInt8.toInt32)), (.int (5 : Int32)), (.ref a1)]))
  obtain ⟨T272, h272, X272, e272, W272, V272, st272⟩ := own_putB X271 hx hZ e271 V269 (y := ((y >>> ((8 : Int32) &&& 31)).toInt8.toInt32)) (own_nb8 _) (j := (5 : Int32)) (by decide) 5 (by decide) (by show 5 < 6; decide) (g := (mkF m 52 #[.val (.ref a1), .val (.int (5 : Int32)), .val (.int y)] [(.int ((y >>> ((8 : Int32) &&& 31)).toInt8.toInt32)), (.int (5 : Int32)), (.ref a1)])) rfl rfl (hb hby d21_52)
  have N272 := Fr.snoc X272 N269 ge_a1
  replace V272 : Arv Z h272 a1 k1 .byte (6 : Int32) [(.int x0), (.int x1), (.int x2), (.int x3), (.int (y.toInt8.toInt32)), (.int ((y >>> ((8 : Int32) &&& 31)).toInt8.toInt32))] (.int (0 : Int32)) := V272
  have O273 := O270.wr W272 ge_a1
  have K273 := K270.wr W272 (Or.inl (List.mem_of_getElem? (i := 0) rfl))
  refine oS st272 ?_
  show own_go _ _ _ _ _ _ _ (T272.setTop (mkF m 53 #[.val (.ref a1), .val (.int (5 : Int32)), .val (.int y)] []))
  exact own_ret0 X272 hx hlk hret (hb hby d21_53) (by decide) (by decide) (by rw [e272]; exact ⟨rfl, N272, K273, V272⟩)
theorem own_ef_rm_tb_3 (m : MethodId) (a1 : Addr) : entryFrame m #[(.ref a1), (.int (0 : Int32)), (.int (3 : Int32))] 5 = mkF m 0 #[.val (.ref a1), .val (.int (0 : Int32)), .val (.int (3 : Int32)), .unset, .unset] [] := by first | (simp [entryFrame, mkF, argsToLocals, Value.category]; done) | rfl
set_option maxRecDepth 65536 in
set_option maxHeartbeats 40000000 in
theorem rm_tb_3 (l : Launch) (Z : State) (a0 : Array Value) (hw : ∀ d ∈ tables_1, d.before a0 Z = true) (a1 : Addr) (k1 : ClassId) (c0 c1 c2 : Int32) (zC : Int32) (vS : Value) (h0 : Heap) (n0 : Nat) (O0 : Old Z n0 h0) (hS : own_S Z zC vS) (V1 : Arv Z h0 a1 k1 .char (3 : Int32) [(.int c0), (.int c1), (.int c2)] (.int (0 : Int32))) :
    own_Met l Z (⟨"java/lang/StringUTF16", "toBytes", "([CII)[B"⟩ : MethodName) jdk_52_method_14_code 5 (some (.array .byte)) [] ({ frames := 2, cells := 1, slots := 6, locals := 30 } : Room) #[(.ref a1), (.int (0 : Int32)), (.int (3 : Int32))] h0 (fun v h L => ∃ a k, v = some (.ref a) ∧ Fr n0 L ∧ Keep h0 h [] ∧ h0.size ≤ a ∧ Arv Z h a k .byte (6 : Int32) [(.int (c0.toInt8.toInt32)), (.int ((c0 >>> ((8 : Int32) &&& 31)).toInt8.toInt32)), (.int (c1.toInt8.toInt32)), (.int ((c1 >>> ((8 : Int32) &&& 31)).toInt8.toInt32)), (.int (c2.toInt8.toInt32)), (.int ((c2 >>> ((8 : Int32) &&& 31)).toInt8.toInt32))] (.int (0 : Int32))) := by
  refine own_body own_pn_18 ?_
  intro p e s m below meth c s₁ hx hby hml hown hnm hret hlk X0 hZ e0
  replace hown : s.vm.findClass "java/lang/StringUTF16" = some m.cls := hown
  have N0 := Fr.nil n0
  have K0 := Keep.refl h0 []
  refine oS (fun _ k => castTop (own_ef_rm_tb_3 m a1) k) ?_
  show own_go _ _ _ _ _ _ _ (s₁.setTop (mkF m 0 #[.val (.ref a1), .val (.int (0 : Int32)), .val (.int (3 : Int32)), .unset, .unset] []))
  refine oS (fun _ k => XS.iloadN X0.here hx rfl (hb hby d18_0) rfl k) ?_
  show own_go _ _ _ _ _ _ _ (s₁.setTop (mkF m 1 #[.val (.ref a1), .val (.int (0 : Int32)), .val (.int (3 : Int32)), .unset, .unset] [(.int (3 : Int32))]))
  obtain ⟨v274, T274, L274, X274, hQ274, st274⟩ := own_callS X0 hx hZ (argsL := [(.int (3 : Int32))]) (rest := []) (rm_nbf_3 l Z a0 hw h0 n0 O0) hown (ow hw 84 rfl) (ow hw 85 rfl) (ow hw 38 rfl) (ow hw 86 rfl) (by decide) e0 (g := (mkF m 1 #[.val (.ref a1), .val (.int (0 : Int32)), .val (.int (3 : Int32)), .unset, .unset] [(.int (3 : Int32))])) rfl (by rw [hml]; rfl) (lenOf own_pd__28I_29_5bB rfl) rfl (W := 0) (by show 2 * 0 + _ ≤ _; exact Nat.le_of_eq rfl) (hb hby d18_1) (by decide) (by decide) (by decide) (by decide)
  obtain ⟨r274, kr274, rfl, Nq274, Kq274, sz274, Vq274⟩ := hQ274
  have N274 := Fr.app N0 Nq274
  have ne_a1_r274 : a1 ≠ r274 := (Nat.ne_of_lt (Nat.lt_of_lt_of_le V1.lt sz274))
  have O274 := O0.keep Kq274 all0
  have K274 := K0.trans Kq274 all0
  refine oS st274 ?_
  show own_go _ _ _ _ _ _ _ (T274.setTop (mkF m 4 #[.val (.ref a1), .val (.int (0 : Int32)), .val (.int (3 : Int32)), .unset, .unset] [(.ref r274)]))
  refine oS (fun _ k => XS.astoreN X274.here hx rfl (hb hby d18_4) rfl rfl (l' := #[.val (.ref a1), .val (.int (0 : Int32)), .val (.int (3 : Int32)), .val (.ref r274), .unset]) rfl k) ?_
  refine oS (fun _ k => XS.iconst X274.here hx rfl (hb hby d18_5) k) ?_
  refine oS (fun _ k => XS.istore X274.here hx rfl (hb hby d18_6) rfl (l' := #[.val (.ref a1), .val (.int (0 : Int32)), .val (.int (3 : Int32)), .val (.ref r274), .val (.int (0 : Int32))]) rfl k) ?_
  refine oS (fun _ k => XS.iload X274.here hx rfl (hb hby d18_8) rfl k) ?_
  refine oS (fun _ k => XS.iloadN X274.here hx rfl (hb hby d18_10) rfl k) ?_
  show own_go _ _ _ _ _ _ _ (T274.setTop (mkF m 11 #[.val (.ref a1), .val (.int (0 : Int32)), .val (.int (3 : Int32)), .val (.ref r274), .val (.int (0 : Int32))] [(.int (3 : Int32)), (.int (0 : Int32))]))
  refine oS (fun _ k => XS.icmpNo X274.here hx rfl (hb hby d18_11) rfl (by decide) k) ?_
  refine oS (fun _ k => XS.aloadN X274.here hx rfl (hb hby d18_14) rfl rfl k) ?_
  refine oS (fun _ k => XS.iload X274.here hx rfl (hb hby d18_15) rfl k) ?_
  refine oS (fun _ k => XS.aloadN X274.here hx rfl (hb hby d18_17) rfl rfl k) ?_
  refine oS (fun _ k => XS.iloadN X274.here hx rfl (hb hby d18_18) rfl k) ?_
  show own_go _ _ _ _ _ _ _ (T274.setTop (mkF m 19 #[.val (.ref a1), .val (.int (0 : Int32)), .val (.int (3 : Int32)), .val (.ref r274), .val (.int (0 : Int32))] [(.int (0 : Int32)), (.ref a1), (.int (0 : Int32)), (.ref r274)]))
  have f275 := (V1.keep Kq274 nin0)
  refine oS (own_getC X274 hx hZ rfl f275 (j := (0 : Int32)) (by decide) (v := (.int c0)) rfl (g := (mkF m 19 #[.val (.ref a1), .val (.int (0 : Int32)), .val (.int (3 : Int32)), .val (.ref r274), .val (.int (0 : Int32))] [(.int (0 : Int32)), (.ref a1), (.int (0 : Int32)), (.ref r274)])) rfl rfl (hb hby d18_19)) ?_
  show own_go _ _ _ _ _ _ _ (T274.setTop (mkF m 20 #[.val (.ref a1), .val (.int (0 : Int32)), .val (.int (3 : Int32)), .val (.ref r274), .val (.int (0 : Int32))] [(.int c0), (.int (0 : Int32)), (.ref r274)]))
  obtain ⟨v276, T276, L276, X276, hQ276, st276⟩ := own_callS X274 hx hZ (argsL := [(.ref r274), (.int (0 : Int32)), (.int c0)]) (rest := []) (rm_pc_3_0 l Z a0 hw r274 kr274 c0 (0 : Int32) (0 : Int32) (0 : Int32) (0 : Int32) (0 : Int32) (0 : Int32) zC vS T274.heap n0 O274 hS (Nat.le_trans (own_osz O0) sz274) Vq274) hown (ow hw 91 rfl) (ow hw 92 rfl) (ow hw 38 rfl) (ow hw 93 rfl) (by decide) rfl (g := (mkF m 20 #[.val (.ref a1), .val (.int (0 : Int32)), .val (.int (3 : Int32)), .val (.ref r274), .val (.int (0 : Int32))] [(.int c0), (.int (0 : Int32)), (.ref r274)])) rfl (by rw [hml]; rfl) (lenOf own_pd__28_5bBII_29V rfl) rfl (W := 0) (by show 2 * 0 + _ ≤ _; exact Nat.le_of_eq rfl) (hb hby d18_20) (by decide) (by decide) (by decide) (by decide)
  obtain ⟨rfl, Nq276, Kq276, Vq276⟩ := hQ276
  have N276 := Fr.app N274 Nq276
  have O276 := O274.keep Kq276 (allS (Nat.le_trans (own_osz O0) sz274) all0)
  have K276 := K274.trans Kq276 (allS (Or.inr (Nat.le_trans K0.1 sz274)) all0)
  refine oS st276 ?_
  show own_go _ _ _ _ _ _ _ (T276.setTop (mkF m 23 #[.val (.ref a1), .val (.int (0 : Int32)), .val (.int (3 : Int32)), .val (.ref r274), .val (.int (0 : Int32))] []))
  refine oS (fun _ k => XS.iinc X276.here hx rfl (hb hby d18_23) rfl (l' := #[.val (.ref a1), .val (.int (1 : Int32)), .val (.int (3 : Int32)), .val (.ref r274), .val (.int (0 : Int32))]) rfl k) ?_
  refine oS (fun _ k => XS.iinc X276.here hx rfl (hb hby d18_26) rfl (l' := #[.val (.ref a1), .val (.int (1 : Int32)), .val (.int (3 : Int32)), .val (.ref r274), .val (.int (1 : Int32))]) rfl k) ?_
  refine oS (fun _ k => XS.goto X276.here hx rfl (pc0 := 29) (pc' := 8) rfl (hb hby d18_29) (by decide) (by decide) k) ?_
  refine oS (fun _ k => XS.iload X276.here hx rfl (hb hby d18_8) rfl k) ?_
  refine oS (fun _ k => XS.iloadN X276.here hx rfl (hb hby d18_10) rfl k) ?_
  show own_go _ _ _ _ _ _ _ (T276.setTop (mkF m 11 #[.val (.ref a1), .val (.int (1 : Int32)), .val (.int (3 : Int32)), .val (.ref r274), .val (.int (1 : Int32))] [(.int (3 : Int32)), (.int (1 : Int32))]))
  refine oS (fun _ k => XS.icmpNo X276.here hx rfl (hb hby d18_11) rfl (by decide) k) ?_
  refine oS (fun _ k => XS.aloadN X276.here hx rfl (hb hby d18_14) rfl rfl k) ?_
  refine oS (fun _ k => XS.iload X276.here hx rfl (hb hby d18_15) rfl k) ?_
  refine oS (fun _ k => XS.aloadN X276.here hx rfl (hb hby d18_17) rfl rfl k) ?_
  refine oS (fun _ k => XS.iloadN X276.here hx rfl (hb hby d18_18) rfl k) ?_
  show own_go _ _ _ _ _ _ _ (T276.setTop (mkF m 19 #[.val (.ref a1), .val (.int (1 : Int32)), .val (.int (3 : Int32)), .val (.ref r274), .val (.int (1 : Int32))] [(.int (1 : Int32)), (.ref a1), (.int (1 : Int32)), (.ref r274)]))
  have f277 := (f275.keep Kq276 (ninS ne_a1_r274 nin0))
  refine oS (own_getC X276 hx hZ rfl f277 (j := (1 : Int32)) (by decide) (v := (.int c1)) rfl (g := (mkF m 19 #[.val (.ref a1), .val (.int (1 : Int32)), .val (.int (3 : Int32)), .val (.ref r274), .val (.int (1 : Int32))] [(.int (1 : Int32)), (.ref a1), (.int (1 : Int32)), (.ref r274)])) rfl rfl (hb hby d18_19)) ?_
  show own_go _ _ _ _ _ _ _ (T276.setTop (mkF m 20 #[.val (.ref a1), .val (.int (1 : Int32)), .val (.int (3 : Int32)), .val (.ref r274), .val (.int (1 : Int32))] [(.int c1), (.int (1 : Int32)), (.ref r274)]))
  obtain ⟨v278, T278, L278, X278, hQ278, st278⟩ := own_callS X276 hx hZ (argsL := [(.ref r274), (.int (1 : Int32)), (.int c1)]) (rest := []) (rm_pc_3_1 l Z a0 hw r274 kr274 c1 (c0.toInt8.toInt32) ((c0 >>> ((8 : Int32) &&& 31)).toInt8.toInt32) (0 : Int32) (0 : Int32) (0 : Int32) (0 : Int32) zC vS T276.heap n0 O276 hS (Nat.le_trans (own_osz O0) sz274) Vq276) hown (ow hw 91 rfl) (ow hw 92 rfl) (ow hw 38 rfl) (ow hw 93 rfl) (by decide) rfl (g := (mkF m 20 #[.val (.ref a1), .val (.int (1 : Int32)), .val (.int (3 : Int32)), .val (.ref r274), .val (.int (1 : Int32))] [(.int c1), (.int (1 : Int32)), (.ref r274)])) rfl (by rw [hml]; rfl) (lenOf own_pd__28_5bBII_29V rfl) rfl (W := 0) (by show 2 * 0 + _ ≤ _; exact Nat.le_of_eq rfl) (hb hby d18_20) (by decide) (by decide) (by decide) (by decide)
  obtain ⟨rfl, Nq278, Kq278, Vq278⟩ := hQ278
  have N278 := Fr.app N276 Nq278
  have O278 := O276.keep Kq278 (allS (Nat.le_trans (own_osz O0) sz274) all0)
  have K278 := K276.trans Kq278 (allS (Or.inr (Nat.le_trans K0.1 sz274)) all0)
  refine oS st278 ?_
  show own_go _ _ _ _ _ _ _ (T278.setTop (mkF m 23 #[.val (.ref a1), .val (.int (1 : Int32)), .val (.int (3 : Int32)), .val (.ref r274), .val (.int (1 : Int32))] []))
  refine oS (fun _ k => XS.iinc X278.here hx rfl (hb hby d18_23) rfl (l' := #[.val (.ref a1), .val (.int (2 : Int32)), .val (.int (3 : Int32)), .val (.ref r274), .val (.int (1 : Int32))]) rfl k) ?_
  refine oS (fun _ k => XS.iinc X278.here hx rfl (hb hby d18_26) rfl (l' := #[.val (.ref a1), .val (.int (2 : Int32)), .val (.int (3 : Int32)), .val (.ref r274), .val (.int (2 : Int32))]) rfl k) ?_
  refine oS (fun _ k => XS.goto X278.here hx rfl (pc0 := 29) (pc' := 8) rfl (hb hby d18_29) (by decide) (by decide) k) ?_
  refine oS (fun _ k => XS.iload X278.here hx rfl (hb hby d18_8) rfl k) ?_
  refine oS (fun _ k => XS.iloadN X278.here hx rfl (hb hby d18_10) rfl k) ?_
  show own_go _ _ _ _ _ _ _ (T278.setTop (mkF m 11 #[.val (.ref a1), .val (.int (2 : Int32)), .val (.int (3 : Int32)), .val (.ref r274), .val (.int (2 : Int32))] [(.int (3 : Int32)), (.int (2 : Int32))]))
  refine oS (fun _ k => XS.icmpNo X278.here hx rfl (hb hby d18_11) rfl (by decide) k) ?_
  refine oS (fun _ k => XS.aloadN X278.here hx rfl (hb hby d18_14) rfl rfl k) ?_
  refine oS (fun _ k => XS.iload X278.here hx rfl (hb hby d18_15) rfl k) ?_
  refine oS (fun _ k => XS.aloadN X278.here hx rfl (hb hby d18_17) rfl rfl k) ?_
  refine oS (fun _ k => XS.iloadN X278.here hx rfl (hb hby d18_18) rfl k) ?_
  show own_go _ _ _ _ _ _ _ (T278.setTop (mkF m 19 #[.val (.ref a1), .val (.int (2 : Int32)), .val (.int (3 : Int32)), .val (.ref r274), .val (.int (2 : Int32))] [(.int (2 : Int32)), (.ref a1), (.int (2 : Int32)), (.ref r274)]))
  have f279 := (f277.keep Kq278 (ninS ne_a1_r274 nin0))
  refine oS (own_getC X278 hx hZ rfl f279 (j := (2 : Int32)) (by decide) (v := (.int c2)) rfl (g := (mkF m 19 #[.val (.ref a1), .val (.int (2 : Int32)), .val (.int (3 : Int32)), .val (.ref r274), .val (.int (2 : Int32))] [(.int (2 : Int32)), (.ref a1), (.int (2 : Int32)), (.ref r274)])) rfl rfl (hb hby d18_19)) ?_
  show own_go _ _ _ _ _ _ _ (T278.setTop (mkF m 20 #[.val (.ref a1), .val (.int (2 : Int32)), .val (.int (3 : Int32)), .val (.ref r274), .val (.int (2 : Int32))] [(.int c2), (.int (2 : Int32)), (.ref r274)]))
  obtain ⟨v280, T280, L280, X280, hQ280, st280⟩ := own_callS X278 hx hZ (argsL := [(.ref r274), (.int (2 : Int32)), (.int c2)]) (rest := []) (rm_pc_3_2 l Z a0 hw r274 kr274 c2 (c0.toInt8.toInt32) ((c0 >>> ((8 : Int32) &&& 31)).toInt8.toInt32) (c1.toInt8.toInt32) ((c1 >>> ((8 : Int32) &&& 31)).toInt8.toInt32) (0 : Int32) (0 : Int32) zC vS T278.heap n0 O278 hS (Nat.le_trans (own_osz O0) sz274) Vq278) hown (ow hw 91 rfl) (ow hw 92 rfl) (ow hw 38 rfl) (ow hw 93 rfl) (by decide) rfl (g := (mkF m 20 #[.val (.ref a1), .val (.int (2 : Int32)), .val (.int (3 : Int32)), .val (.ref r274), .val (.int (2 : Int32))] [(.int c2), (.int (2 : Int32)), (.ref r274)])) rfl (by rw [hml]; rfl) (lenOf own_pd__28_5bBII_29V rfl) rfl (W := 0) (by show 2 * 0 + _ ≤ _; exact Nat.le_of_eq rfl) (hb hby d18_20) (by decide) (by decide) (by decide) (by decide)
  obtain ⟨rfl, Nq280, Kq280, Vq280⟩ := hQ280
  have N280 := Fr.app N278 Nq280
  have O280 := O278.keep Kq280 (allS (Nat.le_trans (own_osz O0) sz274) all0)
  have K280 := K278.trans Kq280 (allS (Or.inr (Nat.le_trans K0.1 sz274)) all0)
  refine oS st280 ?_
  show own_go _ _ _ _ _ _ _ (T280.setTop (mkF m 23 #[.val (.ref a1), .val (.int (2 : Int32)), .val (.int (3 : Int32)), .val (.ref r274), .val (.int (2 : Int32))] []))
  refine oS (fun _ k => XS.iinc X280.here hx rfl (hb hby d18_23) rfl (l' := #[.val (.ref a1), .val (.int (3 : Int32)), .val (.int (3 : Int32)), .val (.ref r274), .val (.int (2 : Int32))]) rfl k) ?_
  refine oS (fun _ k => XS.iinc X280.here hx rfl (hb hby d18_26) rfl (l' := #[.val (.ref a1), .val (.int (3 : Int32)), .val (.int (3 : Int32)), .val (.ref r274), .val (.int (3 : Int32))]) rfl k) ?_
  refine oS (fun _ k => XS.goto X280.here hx rfl (pc0 := 29) (pc' := 8) rfl (hb hby d18_29) (by decide) (by decide) k) ?_
  refine oS (fun _ k => XS.iload X280.here hx rfl (hb hby d18_8) rfl k) ?_
  refine oS (fun _ k => XS.iloadN X280.here hx rfl (hb hby d18_10) rfl k) ?_
  show own_go _ _ _ _ _ _ _ (T280.setTop (mkF m 11 #[.val (.ref a1), .val (.int (3 : Int32)), .val (.int (3 : Int32)), .val (.ref r274), .val (.int (3 : Int32))] [(.int (3 : Int32)), (.int (3 : Int32))]))
  refine oS (fun _ k => XS.icmpYes X280.here hx rfl (pc0 := 11) (pc' := 32) rfl (hb hby d18_11) rfl (by decide) (by decide) (by decide) k) ?_
  refine oS (fun _ k => XS.aloadN X280.here hx rfl (hb hby d18_32) rfl rfl k) ?_
  show own_go _ _ _ _ _ _ _ (T280.setTop (mkF m 33 #[.val (.ref a1), .val (.int (3 : Int32)), .val (.int (3 : Int32)), .val (.ref r274), .val (.int (3 : Int32))] [(.ref r274)]))
  exact own_retA X280 hx hlk hret rfl rfl (hb hby d18_33) (by decide) (by decide) ⟨_, _, rfl, N280, K280, (Nat.le_trans K0.1 sz274), Vq280⟩
theorem own_ef_rm_ci_3 (m : MethodId) (a1 : Addr) (a2 : Addr) : entryFrame m #[(.ref a1), (.int (0 : Int32)), (.ref a2), (.int (0 : Int32)), (.int (3 : Int32))] 7 = mkF m 0 #[.val (.ref a1), .val (.int (0 : Int32)), .val (.ref a2), .val (.int (0 : Int32)), .val (.int (3 : Int32)), .unset, .unset] [] := by first | (simp [entryFrame, mkF, argsToLocals, Value.category]; done) | rfl
set_option maxRecDepth 65536 in
set_option maxHeartbeats 40000000 in
theorem rm_ci_3 (l : Launch) (Z : State) (a0 : Array Value) (hw : ∀ d ∈ tables_1, d.before a0 Z = true) (a1 a2 : Addr) (k1 k2 : ClassId) (c0 c1 c2 : Int32) (h0 : Heap) (n0 : Nat) (O0 : Old Z n0 h0) (V1 : Arv Z h0 a1 k1 .char (3 : Int32) [(.int c0), (.int c1), (.int c2)] (.int (0 : Int32))) (V2 : Arv Z h0 a2 k2 .byte (3 : Int32) [(.int (0 : Int32)), (.int (0 : Int32)), (.int (0 : Int32))] (.int (0 : Int32))) (ge_a2 : n0 ≤ a2) (ne12 : a1 ≠ a2) :
    own_Met l Z (⟨"java/lang/StringUTF16", "compress", "([CI[BII)I"⟩ : MethodName) jdk_52_method_21_code 7 (some .int) [] ({ frames := 0, cells := 0, slots := 0, locals := 0 } : Room) #[(.ref a1), (.int (0 : Int32)), (.ref a2), (.int (0 : Int32)), (.int (3 : Int32))] h0 (fun v h L => ∃ z, v = some (.int z) ∧ Fr n0 L ∧ Keep h0 h [a2] ∧ (((255 : Int32) < c0) → z = (0 : Int32)) ∧ ((¬ (255 : Int32) < c0 ∧ (255 : Int32) < c1) → z = (1 : Int32)) ∧ ((¬ (255 : Int32) < c0 ∧ ¬ (255 : Int32) < c1 ∧ (255 : Int32) < c2) → z = (2 : Int32)) ∧ ((¬ (255 : Int32) < c0 ∧ ¬ (255 : Int32) < c1 ∧ ¬ (255 : Int32) < c2) → z = (3 : Int32) ∧ Arv Z h a2 k2 .byte (3 : Int32) [(.int (c0.toInt8.toInt32)), (.int (c1.toInt8.toInt32)), (.int (c2.toInt8.toInt32))] (.int (0 : Int32)))) := by
  refine own_body own_pn_8 ?_
  intro p e s m below meth c s₁ hx hby hml hown hnm hret hlk X0 hZ e0
  replace hown : s.vm.findClass "java/lang/StringUTF16" = some m.cls := hown
  have N0 := Fr.nil n0
  have K0 := Keep.refl h0 [a2]
  refine oS (fun _ k => castTop (own_ef_rm_ci_3 m a1 a2) k) ?_
  show own_go _ _ _ _ _ _ _ (s₁.setTop (mkF m 0 #[.val (.ref a1), .val (.int (0 : Int32)), .val (.ref a2), .val (.int (0 : Int32)), .val (.int (3 : Int32)), .unset, .unset] []))
  refine oS (fun _ k => XS.iconst X0.here hx rfl (hb hby d8_0) k) ?_
  refine oS (fun _ k => XS.istore X0.here hx rfl (hb hby d8_1) rfl (l' := #[.val (.ref a1), .val (.int (0 : Int32)), .val (.ref a2), .val (.int (0 : Int32)), .val (.int (3 : Int32)), .val (.int (0 : Int32)), .unset]) rfl k) ?_
  refine oS (fun _ k => XS.iload X0.here hx rfl (hb hby d8_3) rfl k) ?_
  refine oS (fun _ k => XS.iload X0.here hx rfl (hb hby d8_5) rfl k) ?_
  show own_go _ _ _ _ _ _ _ (s₁.setTop (mkF m 7 #[.val (.ref a1), .val (.int (0 : Int32)), .val (.ref a2), .val (.int (0 : Int32)), .val (.int (3 : Int32)), .val (.int (0 : Int32)), .unset] [(.int (3 : Int32)), (.int (0 : Int32))]))
  refine oS (fun _ k => XS.icmpNo X0.here hx rfl (hb hby d8_7) rfl (by decide) k) ?_
  refine oS (fun _ k => XS.aloadN X0.here hx rfl (hb hby d8_10) rfl rfl k) ?_
  refine oS (fun _ k => XS.iloadN X0.here hx rfl (hb hby d8_11) rfl k) ?_
  show own_go _ _ _ _ _ _ _ (s₁.setTop (mkF m 12 #[.val (.ref a1), .val (.int (0 : Int32)), .val (.ref a2), .val (.int (0 : Int32)), .val (.int (3 : Int32)), .val (.int (0 : Int32)), .unset] [(.int (0 : Int32)), (.ref a1)]))
  refine oS (own_getC X0 hx hZ e0 V1 (j := (0 : Int32)) (by decide) (v := (.int c0)) rfl (g := (mkF m 12 #[.val (.ref a1), .val (.int (0 : Int32)), .val (.ref a2), .val (.int (0 : Int32)), .val (.int (3 : Int32)), .val (.int (0 : Int32)), .unset] [(.int (0 : Int32)), (.ref a1)])) rfl rfl (hb hby d8_12)) ?_
  show own_go _ _ _ _ _ _ _ (s₁.setTop (mkF m 13 #[.val (.ref a1), .val (.int (0 : Int32)), .val (.ref a2), .val (.int (0 : Int32)), .val (.int (3 : Int32)), .val (.int (0 : Int32)), .unset] [(.int c0)]))
  refine oS (fun _ k => XS.istore X0.here hx rfl (hb hby d8_13) rfl (l' := #[.val (.ref a1), .val (.int (0 : Int32)), .val (.ref a2), .val (.int (0 : Int32)), .val (.int (3 : Int32)), .val (.int (0 : Int32)), .val (.int c0)]) rfl k) ?_
  refine oS (fun _ k => XS.iload X0.here hx rfl (hb hby d8_15) rfl k) ?_
  refine oS (fun _ k => XS.sipush X0.here hx rfl (hb hby d8_17) k) ?_
  show own_go _ _ _ _ _ _ _ (s₁.setTop (mkF m 20 #[.val (.ref a1), .val (.int (0 : Int32)), .val (.ref a2), .val (.int (0 : Int32)), .val (.int (3 : Int32)), .val (.int (0 : Int32)), .val (.int c0)] [(.int (255 : Int32)), (.int c0)]))
  by_cases hc281 : (255 : Int32) < c0
  · skip
    refine oS (fun _ k => XS.icmpNo X0.here hx rfl (hb hby d8_20) rfl (XT.ii_le_f hc281) k) ?_
    refine oS (fun _ k => XS.iload X0.here hx rfl (hb hby d8_23) rfl k) ?_
    show own_go _ _ _ _ _ _ _ (s₁.setTop (mkF m 25 #[.val (.ref a1), .val (.int (0 : Int32)), .val (.ref a2), .val (.int (0 : Int32)), .val (.int (3 : Int32)), .val (.int (0 : Int32)), .val (.int c0)] [(.int (0 : Int32))]))
    exact own_retI X0 hx hlk hret (hb hby d8_25) (by decide) (by decide) (by rw [e0]; exact ⟨_, rfl, N0, K0, fun _ => rfl, fun q => absurd hc281 q.1, fun q => absurd hc281 q.1, fun q => absurd hc281 q.1⟩)
  · skip
    refine oS (fun _ k => XS.icmpYes X0.here hx rfl (pc0 := 20) (pc' := 26) rfl (hb hby d8_20) rfl (XT.ii_le_t hc281) (by decide) (by decide) k) ?_
    refine oS (fun _ k => XS.aloadN X0.here hx rfl (hb hby d8_26) rfl rfl k) ?_
    refine oS (fun _ k => XS.iloadN X0.here hx rfl (hb hby d8_27) rfl k) ?_
    refine oS (fun _ k => XS.iload X0.here hx rfl (hb hby d8_28) rfl k) ?_
    refine oS (fun _ k => XS.i2b X0.here hx rfl (hb hby d8_30) rfl k) ?_
    show own_go _ _ _ _ _ _ _ (s₁.setTop (mkF m 31 #[.val (.ref a1), .val (.int (0 : Int32)), .val (.ref a2), .val (.int (0 : Int32)), .val (.int (3 : Int32)), .val (.int (0 : Int32)), .val (.int c0)] [(.int (c0.toInt8.toInt32)), (.int (0 : Int32)), (.ref a2)]))
    obtain ⟨T282, h282, X282, e282, W282, V282, st282⟩ := own_putB X0 hx hZ e0 V2 (y := (c0.toInt8.toInt32)) (own_nb8 _) (j := (0 : Int32)) (by decide) 0 (by decide) (by show 0 < 3; decide) (g := (mkF m 31 #[.val (.ref a1), .val (.int (0 : Int32)), .val (.ref a2), .val (.int (0 : Int32)), .val (.int (3 : Int32)), .val (.int (0 : Int32)), .val (.int c0)] [(.int (c0.toInt8.toInt32)), (.int (0 : Int32)), (.ref a2)])) rfl rfl (hb hby d8_31)
    have N282 := Fr.snoc X282 N0 ge_a2
    replace V282 : Arv Z h282 a2 k2 .byte (3 : Int32) [(.int (c0.toInt8.toInt32)), (.int (0 : Int32)), (.int (0 : Int32))] (.int (0 : Int32)) := V282
    have O283 := O0.wr W282 ge_a2
    have K283 := K0.wr W282 (Or.inl (List.mem_of_getElem? (i := 0) rfl))
    refine oS st282 ?_
    show own_go _ _ _ _ _ _ _ (T282.setTop (mkF m 32 #[.val (.ref a1), .val (.int (0 : Int32)), .val (.ref a2), .val (.int (0 : Int32)), .val (.int (3 : Int32)), .val (.int (0 : Int32)), .val (.int c0)] []))
    refine oS (fun _ k => XS.iinc X282.here hx rfl (hb hby d8_32) rfl (l' := #[.val (.ref a1), .val (.int (1 : Int32)), .val (.ref a2), .val (.int (0 : Int32)), .val (.int (3 : Int32)), .val (.int (0 : Int32)), .val (.int c0)]) rfl k) ?_
    refine oS (fun _ k => XS.iinc X282.here hx rfl (hb hby d8_35) rfl (l' := #[.val (.ref a1), .val (.int (1 : Int32)), .val (.ref a2), .val (.int (1 : Int32)), .val (.int (3 : Int32)), .val (.int (0 : Int32)), .val (.int c0)]) rfl k) ?_
    refine oS (fun _ k => XS.iinc X282.here hx rfl (hb hby d8_38) rfl (l' := #[.val (.ref a1), .val (.int (1 : Int32)), .val (.ref a2), .val (.int (1 : Int32)), .val (.int (3 : Int32)), .val (.int (1 : Int32)), .val (.int c0)]) rfl k) ?_
    refine oS (fun _ k => XS.goto X282.here hx rfl (pc0 := 41) (pc' := 3) rfl (hb hby d8_41) (by decide) (by decide) k) ?_
    refine oS (fun _ k => XS.iload X282.here hx rfl (hb hby d8_3) rfl k) ?_
    show own_go _ _ _ _ _ _ _ (T282.setTop (mkF m 5 #[.val (.ref a1), .val (.int (1 : Int32)), .val (.ref a2), .val (.int (1 : Int32)), .val (.int (3 : Int32)), .val (.int (1 : Int32)), .val (.int c0)] [(.int (1 : Int32))]))
    refine oS (fun _ k => XS.iload X282.here hx rfl (hb hby d8_5) rfl k) ?_
    show own_go _ _ _ _ _ _ _ (T282.setTop (mkF m 7 #[.val (.ref a1), .val (.int (1 : Int32)), .val (.ref a2), .val (.int (1 : Int32)), .val (.int (3 : Int32)), .val (.int (1 : Int32)), .val (.int c0)] [(.int (3 : Int32)), (.int (1 : Int32))]))
    refine oS (fun _ k => XS.icmpNo X282.here hx rfl (hb hby d8_7) rfl (by decide) k) ?_
    refine oS (fun _ k => XS.aloadN X282.here hx rfl (hb hby d8_10) rfl rfl k) ?_
    refine oS (fun _ k => XS.iloadN X282.here hx rfl (hb hby d8_11) rfl k) ?_
    show own_go _ _ _ _ _ _ _ (T282.setTop (mkF m 12 #[.val (.ref a1), .val (.int (1 : Int32)), .val (.ref a2), .val (.int (1 : Int32)), .val (.int (3 : Int32)), .val (.int (1 : Int32)), .val (.int c0)] [(.int (1 : Int32)), (.ref a1)]))
    have f284 := (V1.other W282 ne12)
    refine oS (own_getC X282 hx hZ e282 f284 (j := (1 : Int32)) (by decide) (v := (.int c1)) rfl (g := (mkF m 12 #[.val (.ref a1), .val (.int (1 : Int32)), .val (.ref a2), .val (.int (1 : Int32)), .val (.int (3 : Int32)), .val (.int (1 : Int32)), .val (.int c0)] [(.int (1 : Int32)), (.ref a1)])) rfl rfl (hb hby d8_12)) ?_
    show own_go _ _ _ _ _ _ _ (T282.setTop (mkF m 13 #[.val (.ref a1), .val (.int (1 : Int32)), .val (.ref a2), .val (.int (1 : Int32)), .val (.int (3 : Int32)), .val (.int (1 : Int32)), .val (.int c0)] [(.int c1)]))
    refine oS (fun _ k => XS.istore X282.here hx rfl (hb hby d8_13) rfl (l' := #[.val (.ref a1), .val (.int (1 : Int32)), .val (.ref a2), .val (.int (1 : Int32)), .val (.int (3 : Int32)), .val (.int (1 : Int32)), .val (.int c1)]) rfl k) ?_
    refine oS (fun _ k => XS.iload X282.here hx rfl (hb hby d8_15) rfl k) ?_
    refine oS (fun _ k => XS.sipush X282.here hx rfl (hb hby d8_17) k) ?_
    show own_go _ _ _ _ _ _ _ (T282.setTop (mkF m 20 #[.val (.ref a1), .val (.int (1 : Int32)), .val (.ref a2), .val (.int (1 : Int32)), .val (.int (3 : Int32)), .val (.int (1 : Int32)), .val (.int c1)] [(.int (255 : Int32)), (.int c1)]))
    by_cases hc285 : (255 : Int32) < c1
    · skip
      refine oS (fun _ k => XS.icmpNo X282.here hx rfl (hb hby d8_20) rfl (XT.ii_le_f hc285) k) ?_
      refine oS (fun _ k => XS.iload X282.here hx rfl (hb hby d8_23) rfl k) ?_
      show own_go _ _ _ _ _ _ _ (T282.setTop (mkF m 25 #[.val (.ref a1), .val (.int (1 : Int32)), .val (.ref a2), .val (.int (1 : Int32)), .val (.int (3 : Int32)), .val (.int (1 : Int32)), .val (.int c1)] [(.int (1 : Int32))]))
      exact own_retI X282 hx hlk hret (hb hby d8_25) (by decide) (by decide) (by rw [e282]; exact ⟨_, rfl, N282, K283, fun q => absurd q hc281, fun _ => rfl, fun q => absurd hc285 q.2.1, fun q => absurd hc285 q.2.1⟩)
    · skip
      refine oS (fun _ k => XS.icmpYes X282.here hx rfl (pc0 := 20) (pc' := 26) rfl (hb hby d8_20) rfl (XT.ii_le_t hc285) (by decide) (by decide) k) ?_
      refine oS (fun _ k => XS.aloadN X282.here hx rfl (hb hby d8_26) rfl rfl k) ?_
      refine oS (fun _ k => XS.iloadN X282.here hx rfl (hb hby d8_27) rfl k) ?_
      refine oS (fun _ k => XS.iload X282.here hx rfl (hb hby d8_28) rfl k) ?_
      refine oS (fun _ k => XS.i2b X282.here hx rfl (hb hby d8_30) rfl k) ?_
      show own_go _ _ _ _ _ _ _ (T282.setTop (mkF m 31 #[.val (.ref a1), .val (.int (1 : Int32)), .val (.ref a2), .val (.int (1 : Int32)), .val (.int (3 : Int32)), .val (.int (1 : Int32)), .val (.int c1)] [(.int (c1.toInt8.toInt32)), (.int (1 : Int32)), (.ref a2)]))
      obtain ⟨T286, h286, X286, e286, W286, V286, st286⟩ := own_putB X282 hx hZ e282 V282 (y := (c1.toInt8.toInt32)) (own_nb8 _) (j := (1 : Int32)) (by decide) 1 (by decide) (by show 1 < 3; decide) (g := (mkF m 31 #[.val (.ref a1), .val (.int (1 : Int32)), .val (.ref a2), .val (.int (1 : Int32)), .val (.int (3 : Int32)), .val (.int (1 : Int32)), .val (.int c1)] [(.int (c1.toInt8.toInt32)), (.int (1 : Int32)), (.ref a2)])) rfl rfl (hb hby d8_31)
      have N286 := Fr.snoc X286 N282 ge_a2
      replace V286 : Arv Z h286 a2 k2 .byte (3 : Int32) [(.int (c0.toInt8.toInt32)), (.int (c1.toInt8.toInt32)), (.int (0 : Int32))] (.int (0 : Int32)) := V286
      have O287 := O283.wr W286 ge_a2
      have K287 := K283.wr W286 (Or.inl (List.mem_of_getElem? (i := 0) rfl))
      refine oS st286 ?_
      show own_go _ _ _ _ _ _ _ (T286.setTop (mkF m 32 #[.val (.ref a1), .val (.int (1 : Int32)), .val (.ref a2), .val (.int (1 : Int32)), .val (.int (3 : Int32)), .val (.int (1 : Int32)), .val (.int c1)] []))
      refine oS (fun _ k => XS.iinc X286.here hx rfl (hb hby d8_32) rfl (l' := #[.val (.ref a1), .val (.int (2 : Int32)), .val (.ref a2), .val (.int (1 : Int32)), .val (.int (3 : Int32)), .val (.int (1 : Int32)), .val (.int c1)]) rfl k) ?_
      refine oS (fun _ k => XS.iinc X286.here hx rfl (hb hby d8_35) rfl (l' := #[.val (.ref a1), .val (.int (2 : Int32)), .val (.ref a2), .val (.int (2 : Int32)), .val (.int (3 : Int32)), .val (.int (1 : Int32)), .val (.int c1)]) rfl k) ?_
      refine oS (fun _ k => XS.iinc X286.here hx rfl (hb hby d8_38) rfl (l' := #[.val (.ref a1), .val (.int (2 : Int32)), .val (.ref a2), .val (.int (2 : Int32)), .val (.int (3 : Int32)), .val (.int (2 : Int32)), .val (.int c1)]) rfl k) ?_
      refine oS (fun _ k => XS.goto X286.here hx rfl (pc0 := 41) (pc' := 3) rfl (hb hby d8_41) (by decide) (by decide) k) ?_
      refine oS (fun _ k => XS.iload X286.here hx rfl (hb hby d8_3) rfl k) ?_
      show own_go _ _ _ _ _ _ _ (T286.setTop (mkF m 5 #[.val (.ref a1), .val (.int (2 : Int32)), .val (.ref a2), .val (.int (2 : Int32)), .val (.int (3 : Int32)), .val (.int (2 : Int32)), .val (.int c1)] [(.int (2 : Int32))]))
      refine oS (fun _ k => XS.iload X286.here hx rfl (hb hby d8_5) rfl k) ?_
      show own_go _ _ _ _ _ _ _ (T286.setTop (mkF m 7 #[.val (.ref a1), .val (.int (2 : Int32)), .val (.ref a2), .val (.int (2 : Int32)), .val (.int (3 : Int32)), .val (.int (2 : Int32)), .val (.int c1)] [(.int (3 : Int32)), (.int (2 : Int32))]))
      refine oS (fun _ k => XS.icmpNo X286.here hx rfl (hb hby d8_7) rfl (by decide) k) ?_
      refine oS (fun _ k => XS.aloadN X286.here hx rfl (hb hby d8_10) rfl rfl k) ?_
      refine oS (fun _ k => XS.iloadN X286.here hx rfl (hb hby d8_11) rfl k) ?_
      show own_go _ _ _ _ _ _ _ (T286.setTop (mkF m 12 #[.val (.ref a1), .val (.int (2 : Int32)), .val (.ref a2), .val (.int (2 : Int32)), .val (.int (3 : Int32)), .val (.int (2 : Int32)), .val (.int c1)] [(.int (2 : Int32)), (.ref a1)]))
      have f288 := (f284.other W286 ne12)
      refine oS (own_getC X286 hx hZ e286 f288 (j := (2 : Int32)) (by decide) (v := (.int c2)) rfl (g := (mkF m 12 #[.val (.ref a1), .val (.int (2 : Int32)), .val (.ref a2), .val (.int (2 : Int32)), .val (.int (3 : Int32)), .val (.int (2 : Int32)), .val (.int c1)] [(.int (2 : Int32)), (.ref a1)])) rfl rfl (hb hby d8_12)) ?_
      show own_go _ _ _ _ _ _ _ (T286.setTop (mkF m 13 #[.val (.ref a1), .val (.int (2 : Int32)), .val (.ref a2), .val (.int (2 : Int32)), .val (.int (3 : Int32)), .val (.int (2 : Int32)), .val (.int c1)] [(.int c2)]))
      refine oS (fun _ k => XS.istore X286.here hx rfl (hb hby d8_13) rfl (l' := #[.val (.ref a1), .val (.int (2 : Int32)), .val (.ref a2), .val (.int (2 : Int32)), .val (.int (3 : Int32)), .val (.int (2 : Int32)), .val (.int c2)]) rfl k) ?_
      refine oS (fun _ k => XS.iload X286.here hx rfl (hb hby d8_15) rfl k) ?_
      refine oS (fun _ k => XS.sipush X286.here hx rfl (hb hby d8_17) k) ?_
      show own_go _ _ _ _ _ _ _ (T286.setTop (mkF m 20 #[.val (.ref a1), .val (.int (2 : Int32)), .val (.ref a2), .val (.int (2 : Int32)), .val (.int (3 : Int32)), .val (.int (2 : Int32)), .val (.int c2)] [(.int (255 : Int32)), (.int c2)]))
      by_cases hc289 : (255 : Int32) < c2
      · skip
        refine oS (fun _ k => XS.icmpNo X286.here hx rfl (hb hby d8_20) rfl (XT.ii_le_f hc289) k) ?_
        refine oS (fun _ k => XS.iload X286.here hx rfl (hb hby d8_23) rfl k) ?_
        show own_go _ _ _ _ _ _ _ (T286.setTop (mkF m 25 #[.val (.ref a1), .val (.int (2 : Int32)), .val (.ref a2), .val (.int (2 : Int32)), .val (.int (3 : Int32)), .val (.int (2 : Int32)), .val (.int c2)] [(.int (2 : Int32))]))
        exact own_retI X286 hx hlk hret (hb hby d8_25) (by decide) (by decide) (by rw [e286]; exact ⟨_, rfl, N286, K287, fun q => absurd q hc281, fun q => absurd q.2 hc285, fun _ => rfl, fun q => absurd hc289 q.2.2⟩)
      · skip
        refine oS (fun _ k => XS.icmpYes X286.here hx rfl (pc0 := 20) (pc' := 26) rfl (hb hby d8_20) rfl (XT.ii_le_t hc289) (by decide) (by decide) k) ?_
        refine oS (fun _ k => XS.aloadN X286.here hx rfl (hb hby d8_26) rfl rfl k) ?_
        refine oS (fun _ k => XS.iloadN X286.here hx rfl (hb hby d8_27) rfl k) ?_
        refine oS (fun _ k => XS.iload X286.here hx rfl (hb hby d8_28) rfl k) ?_
        refine oS (fun _ k => XS.i2b X286.here hx rfl (hb hby d8_30) rfl k) ?_
        show own_go _ _ _ _ _ _ _ (T286.setTop (mkF m 31 #[.val (.ref a1), .val (.int (2 : Int32)), .val (.ref a2), .val (.int (2 : Int32)), .val (.int (3 : Int32)), .val (.int (2 : Int32)), .val (.int c2)] [(.int (c2.toInt8.toInt32)), (.int (2 : Int32)), (.ref a2)]))
        obtain ⟨T290, h290, X290, e290, W290, V290, st290⟩ := own_putB X286 hx hZ e286 V286 (y := (c2.toInt8.toInt32)) (own_nb8 _) (j := (2 : Int32)) (by decide) 2 (by decide) (by show 2 < 3; decide) (g := (mkF m 31 #[.val (.ref a1), .val (.int (2 : Int32)), .val (.ref a2), .val (.int (2 : Int32)), .val (.int (3 : Int32)), .val (.int (2 : Int32)), .val (.int c2)] [(.int (c2.toInt8.toInt32)), (.int (2 : Int32)), (.ref a2)])) rfl rfl (hb hby d8_31)
        have N290 := Fr.snoc X290 N286 ge_a2
        replace V290 : Arv Z h290 a2 k2 .byte (3 : Int32) [(.int (c0.toInt8.toInt32)), (.int (c1.toInt8.toInt32)), (.int (c2.toInt8.toInt32))] (.int (0 : Int32)) := V290
        have O291 := O287.wr W290 ge_a2
        have K291 := K287.wr W290 (Or.inl (List.mem_of_getElem? (i := 0) rfl))
        refine oS st290 ?_
        show own_go _ _ _ _ _ _ _ (T290.setTop (mkF m 32 #[.val (.ref a1), .val (.int (2 : Int32)), .val (.ref a2), .val (.int (2 : Int32)), .val (.int (3 : Int32)), .val (.int (2 : Int32)), .val (.int c2)] []))
        refine oS (fun _ k => XS.iinc X290.here hx rfl (hb hby d8_32) rfl (l' := #[.val (.ref a1), .val (.int (3 : Int32)), .val (.ref a2), .val (.int (2 : Int32)), .val (.int (3 : Int32)), .val (.int (2 : Int32)), .val (.int c2)]) rfl k) ?_
        refine oS (fun _ k => XS.iinc X290.here hx rfl (hb hby d8_35) rfl (l' := #[.val (.ref a1), .val (.int (3 : Int32)), .val (.ref a2), .val (.int (3 : Int32)), .val (.int (3 : Int32)), .val (.int (2 : Int32)), .val (.int c2)]) rfl k) ?_
        refine oS (fun _ k => XS.iinc X290.here hx rfl (hb hby d8_38) rfl (l' := #[.val (.ref a1), .val (.int (3 : Int32)), .val (.ref a2), .val (.int (3 : Int32)), .val (.int (3 : Int32)), .val (.int (3 : Int32)), .val (.int c2)]) rfl k) ?_
        refine oS (fun _ k => XS.goto X290.here hx rfl (pc0 := 41) (pc' := 3) rfl (hb hby d8_41) (by decide) (by decide) k) ?_
        refine oS (fun _ k => XS.iload X290.here hx rfl (hb hby d8_3) rfl k) ?_
        show own_go _ _ _ _ _ _ _ (T290.setTop (mkF m 5 #[.val (.ref a1), .val (.int (3 : Int32)), .val (.ref a2), .val (.int (3 : Int32)), .val (.int (3 : Int32)), .val (.int (3 : Int32)), .val (.int c2)] [(.int (3 : Int32))]))
        refine oS (fun _ k => XS.iload X290.here hx rfl (hb hby d8_5) rfl k) ?_
        show own_go _ _ _ _ _ _ _ (T290.setTop (mkF m 7 #[.val (.ref a1), .val (.int (3 : Int32)), .val (.ref a2), .val (.int (3 : Int32)), .val (.int (3 : Int32)), .val (.int (3 : Int32)), .val (.int c2)] [(.int (3 : Int32)), (.int (3 : Int32))]))
        refine oS (fun _ k => XS.icmpYes X290.here hx rfl (pc0 := 7) (pc' := 44) rfl (hb hby d8_7) rfl (by decide) (by decide) (by decide) k) ?_
        refine oS (fun _ k => XS.iload X290.here hx rfl (hb hby d8_44) rfl k) ?_
        show own_go _ _ _ _ _ _ _ (T290.setTop (mkF m 46 #[.val (.ref a1), .val (.int (3 : Int32)), .val (.ref a2), .val (.int (3 : Int32)), .val (.int (3 : Int32)), .val (.int (3 : Int32)), .val (.int c2)] [(.int (3 : Int32))]))
        exact own_retI X290 hx hlk hret (hb hby d8_46) (by decide) (by decide) (by rw [e290]; exact ⟨_, rfl, N290, K291, fun q => absurd q hc281, fun q => absurd q.2 hc285, fun q => absurd q.2.2 hc289, fun _ => ⟨rfl, V290⟩⟩)
theorem own_ef_rm_co_3_0 (m : MethodId) (a1 : Addr) : entryFrame m #[(.ref a1), (.int (0 : Int32)), (.int (3 : Int32))] 6 = mkF m 0 #[.val (.ref a1), .val (.int (0 : Int32)), .val (.int (3 : Int32)), .unset, .unset, .unset] [] := by first | (simp [entryFrame, mkF, argsToLocals, Value.category]; done) | rfl
set_option maxRecDepth 65536 in
set_option maxHeartbeats 40000000 in
theorem rm_co_3_0 (l : Launch) (Z : State) (a0 : Array Value) (hw : ∀ d ∈ tables_1, d.before a0 Z = true) (a1 : Addr) (k1 : ClassId) (c0 c1 c2 : Int32) (zC : Int32) (vS : Value) (h0 : Heap) (n0 : Nat) (O0 : Old Z n0 h0) (hS : own_S Z zC vS) (V1 : Arv Z h0 a1 k1 .char (3 : Int32) [(.int c0), (.int c1), (.int c2)] (.int (0 : Int32))) (hc0 : own_ch c0) (hc1 : own_ch c1) (hc2 : own_ch c2) (hB : (255 : Int32) < c0) :
    own_Met l Z (⟨"java/lang/StringUTF16", "compress", "([CII)[B"⟩ : MethodName) jdk_52_method_16_code 6 (some (.array .byte)) [] ({ frames := 3, cells := 2, slots := 9, locals := 60 } : Room) #[(.ref a1), (.int (0 : Int32)), (.int (3 : Int32))] h0 (fun v h L => ∃ a k, v = some (.ref a) ∧ Fr n0 L ∧ Keep h0 h [] ∧ h0.size ≤ a ∧ Arv Z h a k .byte (6 : Int32) [(.int (c0.toInt8.toInt32)), (.int ((c0 >>> ((8 : Int32) &&& 31)).toInt8.toInt32)), (.int (c1.toInt8.toInt32)), (.int ((c1 >>> ((8 : Int32) &&& 31)).toInt8.toInt32)), (.int (c2.toInt8.toInt32)), (.int ((c2 >>> ((8 : Int32) &&& 31)).toInt8.toInt32))] (.int (0 : Int32))) := by
  refine own_body own_pn_7 ?_
  intro p e s m below meth c s₁ hx hby hml hown hnm hret hlk X0 hZ e0
  replace hown : s.vm.findClass "java/lang/StringUTF16" = some m.cls := hown
  have N0 := Fr.nil n0
  have K0 := Keep.refl h0 []
  refine oS (fun _ k => castTop (own_ef_rm_co_3_0 m a1) k) ?_
  show own_go _ _ _ _ _ _ _ (s₁.setTop (mkF m 0 #[.val (.ref a1), .val (.int (0 : Int32)), .val (.int (3 : Int32)), .unset, .unset, .unset] []))
  refine oS (fun _ k => XS.iloadN X0.here hx rfl (hb hby d7_0) rfl k) ?_
  show own_go _ _ _ _ _ _ _ (s₁.setTop (mkF m 1 #[.val (.ref a1), .val (.int (0 : Int32)), .val (.int (3 : Int32)), .unset, .unset, .unset] [(.int (3 : Int32))]))
  obtain ⟨T292, h292, k292, b292, X292, e292, g292, E292, V292, st292⟩ := own_newP X0 hx hZ (aty := .byte) (ow hw 19 rfl) e0 (g := (mkF m 1 #[.val (.ref a1), .val (.int (0 : Int32)), .val (.int (3 : Int32)), .unset, .unset, .unset] [(.int (3 : Int32))])) rfl (hb hby d7_1) rfl (by decide) (cap := 3) (by decide) (by decide) (by decide) (by decide)
  replace V292 : Arv Z h292 b292 k292 .byte (3 : Int32) [(.int (0 : Int32)), (.int (0 : Int32)), (.int (0 : Int32))] (.int (0 : Int32)) := V292
  have ge_b292 : n0 ≤ b292 := by rw [g292]; exact own_osz O0
  have sz_b292 : h0.size ≤ b292 := by rw [g292]; exact K0.1
  have ne_a1_b292 : a1 ≠ b292 := (fun q => absurd V1.lt (by rw [q, g292]; exact Nat.lt_irrefl _))
  have O292 := O0.ext E292
  have K292 := K0.ext E292
  refine oS st292 ?_
  show own_go _ _ _ _ _ _ _ (T292.setTop (mkF m 3 #[.val (.ref a1), .val (.int (0 : Int32)), .val (.int (3 : Int32)), .unset, .unset, .unset] [(.ref b292)]))
  refine oS (fun _ k => XS.astoreN X292.here hx rfl (hb hby d7_3) rfl rfl (l' := #[.val (.ref a1), .val (.int (0 : Int32)), .val (.int (3 : Int32)), .val (.ref b292), .unset, .unset]) rfl k) ?_
  refine oS (fun _ k => XS.aloadN X292.here hx rfl (hb hby d7_4) rfl rfl k) ?_
  refine oS (fun _ k => XS.iloadN X292.here hx rfl (hb hby d7_5) rfl k) ?_
  refine oS (fun _ k => XS.aloadN X292.here hx rfl (hb hby d7_6) rfl rfl k) ?_
  refine oS (fun _ k => XS.iconst X292.here hx rfl (hb hby d7_7) k) ?_
  show own_go _ _ _ _ _ _ _ (T292.setTop (mkF m 8 #[.val (.ref a1), .val (.int (0 : Int32)), .val (.int (3 : Int32)), .val (.ref b292), .unset, .unset] [(.int (0 : Int32)), (.ref b292), (.int (0 : Int32)), (.ref a1)]))
  refine oS (fun _ k => XS.iloadN X292.here hx rfl (hb hby d7_8) rfl k) ?_
  show own_go _ _ _ _ _ _ _ (T292.setTop (mkF m 9 #[.val (.ref a1), .val (.int (0 : Int32)), .val (.int (3 : Int32)), .val (.ref b292), .unset, .unset] [(.int (3 : Int32)), (.int (0 : Int32)), (.ref b292), (.int (0 : Int32)), (.ref a1)]))
  have f294 := (V1.ext E292)
  obtain ⟨v293, T293, L293, X293, hQ293, st293⟩ := own_callS X292 hx hZ (argsL := [(.ref a1), (.int (0 : Int32)), (.ref b292), (.int (0 : Int32)), (.int (3 : Int32))]) (rest := []) (rm_ci_3 l Z a0 hw a1 b292 k1 k292 c0 c1 c2 h292 n0 O292 f294 V292 ge_b292 ne_a1_b292) hown (ow hw 40 rfl) (ow hw 41 rfl) (ow hw 38 rfl) (ow hw 42 rfl) (by decide) e292 (g := (mkF m 9 #[.val (.ref a1), .val (.int (0 : Int32)), .val (.int (3 : Int32)), .val (.ref b292), .unset, .unset] [(.int (3 : Int32)), (.int (0 : Int32)), (.ref b292), (.int (0 : Int32)), (.ref a1)])) rfl (by rw [hml]; rfl) (lenOf own_pd__28_5bCI_5bBII_29I rfl) rfl (W := 0) (by show 2 * 0 + _ ≤ _; exact Nat.le_of_eq rfl) (hb hby d7_9) (by decide) (by decide) (by decide) (by decide)
  obtain ⟨z293, rfl, Nq293, Kq293, i0_293, i1_293, i2_293, i3_293⟩ := hQ293
  have N293 := Fr.app N0 Nq293
  obtain rfl := i0_293 hB
  have O293 := O292.keep Kq293 (allS ge_b292 all0)
  have K293 := K292.trans Kq293 (allS (Or.inr sz_b292) all0)
  refine oS st293 ?_
  show own_go _ _ _ _ _ _ _ (T293.setTop (mkF m 12 #[.val (.ref a1), .val (.int (0 : Int32)), .val (.int (3 : Int32)), .val (.ref b292), .unset, .unset] [(.int (0 : Int32))]))
  refine oS (fun _ k => XS.istore X293.here hx rfl (hb hby d7_12) rfl (l' := #[.val (.ref a1), .val (.int (0 : Int32)), .val (.int (3 : Int32)), .val (.ref b292), .val (.int (0 : Int32)), .unset]) rfl k) ?_
  refine oS (fun _ k => XS.iload X293.here hx rfl (hb hby d7_14) rfl k) ?_
  refine oS (fun _ k => XS.iloadN X293.here hx rfl (hb hby d7_16) rfl k) ?_
  show own_go _ _ _ _ _ _ _ (T293.setTop (mkF m 17 #[.val (.ref a1), .val (.int (0 : Int32)), .val (.int (3 : Int32)), .val (.ref b292), .val (.int (0 : Int32)), .unset] [(.int (3 : Int32)), (.int (0 : Int32))]))
  refine oS (fun _ k => XS.icmpNo X293.here hx rfl (hb hby d7_17) rfl (by decide) k) ?_
  refine oS (fun _ k => XS.aloadN X293.here hx rfl (hb hby d7_20) rfl rfl k) ?_
  refine oS (fun _ k => XS.iloadN X293.here hx rfl (hb hby d7_21) rfl k) ?_
  refine oS (fun _ k => XS.iloadN X293.here hx rfl (hb hby d7_22) rfl k) ?_
  show own_go _ _ _ _ _ _ _ (T293.setTop (mkF m 23 #[.val (.ref a1), .val (.int (0 : Int32)), .val (.int (3 : Int32)), .val (.ref b292), .val (.int (0 : Int32)), .unset] [(.int (3 : Int32)), (.int (0 : Int32)), (.ref a1)]))
  have f296 := (f294.keep Kq293 (ninS ne_a1_b292 nin0))
  obtain ⟨v295, T295, L295, X295, hQ295, st295⟩ := own_callS X293 hx hZ (argsL := [(.ref a1), (.int (0 : Int32)), (.int (3 : Int32))]) (rest := []) (rm_tb_3 l Z a0 hw a1 k1 c0 c1 c2 zC vS T293.heap n0 O293 hS f296) hown (ow hw 81 rfl) (ow hw 82 rfl) (ow hw 38 rfl) (ow hw 83 rfl) (by decide) rfl (g := (mkF m 23 #[.val (.ref a1), .val (.int (0 : Int32)), .val (.int (3 : Int32)), .val (.ref b292), .val (.int (0 : Int32)), .unset] [(.int (3 : Int32)), (.int (0 : Int32)), (.ref a1)])) rfl (by rw [hml]; rfl) (lenOf own_pd__28_5bCII_29_5bB rfl) rfl (W := 0) (by show 2 * 0 + _ ≤ _; exact Nat.le_of_eq rfl) (hb hby d7_23) (by decide) (by decide) (by decide) (by decide)
  obtain ⟨r295, kr295, rfl, Nq295, Kq295, sz295, Vq295⟩ := hQ295
  have N295 := Fr.app N293 Nq295
  have ne_a1_r295 : a1 ≠ r295 := (Nat.ne_of_lt (Nat.lt_of_lt_of_le f296.lt sz295))
  have O295 := O293.keep Kq295 all0
  have K295 := K293.trans Kq295 all0
  refine oS st295 ?_
  show own_go _ _ _ _ _ _ _ (T295.setTop (mkF m 26 #[.val (.ref a1), .val (.int (0 : Int32)), .val (.int (3 : Int32)), .val (.ref b292), .val (.int (0 : Int32)), .unset] [(.ref r295)]))
  refine oS (fun _ k => XS.astore X295.here hx rfl (hb hby d7_26) rfl rfl (l' := #[.val (.ref a1), .val (.int (0 : Int32)), .val (.int (3 : Int32)), .val (.ref b292), .val (.int (0 : Int32)), .val (.ref r295)]) rfl k) ?_
  refine oS (fun _ k => XS.aload X295.here hx rfl (hb hby d7_28) rfl rfl k) ?_
  refine oS (fun _ k => XS.iload X295.here hx rfl (hb hby d7_30) rfl k) ?_
  show own_go _ _ _ _ _ _ _ (T295.setTop (mkF m 32 #[.val (.ref a1), .val (.int (0 : Int32)), .val (.int (3 : Int32)), .val (.ref b292), .val (.int (0 : Int32)), .val (.ref r295)] [(.int (0 : Int32)), (.ref r295)]))
  obtain ⟨v297, T297, L297, X297, hQ297, st297⟩ := own_callS X295 hx hZ (argsL := [(.ref r295), (.int (0 : Int32))]) (rest := []) (rm_gc_3_0 l Z a0 hw r295 kr295 c0 c1 c2 zC vS T295.heap n0 O295 hS Vq295 hc0) hown (ow hw 97 rfl) (ow hw 98 rfl) (ow hw 38 rfl) (ow hw 99 rfl) (by decide) rfl (g := (mkF m 32 #[.val (.ref a1), .val (.int (0 : Int32)), .val (.int (3 : Int32)), .val (.ref b292), .val (.int (0 : Int32)), .val (.ref r295)] [(.int (0 : Int32)), (.ref r295)])) rfl (by rw [hml]; rfl) (lenOf own_pd__28_5bBI_29C rfl) rfl (W := 0) (by show 2 * 0 + _ ≤ _; exact Nat.le_of_eq rfl) (hb hby d7_32) (by decide) (by decide) (by decide) (by decide)
  obtain ⟨rfl, Nq297, eq297⟩ := hQ297
  have N297 := Fr.app N295 Nq297
  refine oS st297 ?_
  show own_go _ _ _ _ _ _ _ (T297.setTop (mkF m 35 #[.val (.ref a1), .val (.int (0 : Int32)), .val (.int (3 : Int32)), .val (.ref b292), .val (.int (0 : Int32)), .val (.ref r295)] [(.int c0)]))
  refine oS (fun _ k => XS.sipush X297.here hx rfl (hb hby d7_35) k) ?_
  show own_go _ _ _ _ _ _ _ (T297.setTop (mkF m 38 #[.val (.ref a1), .val (.int (0 : Int32)), .val (.int (3 : Int32)), .val (.ref b292), .val (.int (0 : Int32)), .val (.ref r295)] [(.int (255 : Int32)), (.int c0)]))
  refine oS (fun _ k => XS.icmpYes X297.here hx rfl (pc0 := 38) (pc' := 54) rfl (hb hby d7_38) rfl (XT.ii_gt_t hB) (by decide) (by decide) k) ?_
  refine oS (fun _ k => XS.aload X297.here hx rfl (hb hby d7_54) rfl rfl k) ?_
  show own_go _ _ _ _ _ _ _ (T297.setTop (mkF m 56 #[.val (.ref a1), .val (.int (0 : Int32)), .val (.int (3 : Int32)), .val (.ref b292), .val (.int (0 : Int32)), .val (.ref r295)] [(.ref r295)]))
  exact own_retA X297 hx hlk hret rfl rfl (hb hby d7_56) (by decide) (by decide) (by rw [eq297]; exact ⟨_, _, rfl, N297, K295, (Nat.le_trans K293.1 sz295), Vq295⟩)
theorem own_ef_rm_co_3_1 (m : MethodId) (a1 : Addr) : entryFrame m #[(.ref a1), (.int (0 : Int32)), (.int (3 : Int32))] 6 = mkF m 0 #[.val (.ref a1), .val (.int (0 : Int32)), .val (.int (3 : Int32)), .unset, .unset, .unset] [] := by first | (simp [entryFrame, mkF, argsToLocals, Value.category]; done) | rfl
set_option maxRecDepth 65536 in
set_option maxHeartbeats 40000000 in
theorem rm_co_3_1 (l : Launch) (Z : State) (a0 : Array Value) (hw : ∀ d ∈ tables_1, d.before a0 Z = true) (a1 : Addr) (k1 : ClassId) (c0 c1 c2 : Int32) (zC : Int32) (vS : Value) (h0 : Heap) (n0 : Nat) (O0 : Old Z n0 h0) (hS : own_S Z zC vS) (V1 : Arv Z h0 a1 k1 .char (3 : Int32) [(.int c0), (.int c1), (.int c2)] (.int (0 : Int32))) (hc0 : own_ch c0) (hc1 : own_ch c1) (hc2 : own_ch c2) (hl0 : ¬ (255 : Int32) < c0) (hB : (255 : Int32) < c1) :
    own_Met l Z (⟨"java/lang/StringUTF16", "compress", "([CII)[B"⟩ : MethodName) jdk_52_method_16_code 6 (some (.array .byte)) [] ({ frames := 3, cells := 2, slots := 9, locals := 60 } : Room) #[(.ref a1), (.int (0 : Int32)), (.int (3 : Int32))] h0 (fun v h L => ∃ a k, v = some (.ref a) ∧ Fr n0 L ∧ Keep h0 h [] ∧ h0.size ≤ a ∧ Arv Z h a k .byte (6 : Int32) [(.int (c0.toInt8.toInt32)), (.int ((c0 >>> ((8 : Int32) &&& 31)).toInt8.toInt32)), (.int (c1.toInt8.toInt32)), (.int ((c1 >>> ((8 : Int32) &&& 31)).toInt8.toInt32)), (.int (c2.toInt8.toInt32)), (.int ((c2 >>> ((8 : Int32) &&& 31)).toInt8.toInt32))] (.int (0 : Int32))) := by
  refine own_body own_pn_7 ?_
  intro p e s m below meth c s₁ hx hby hml hown hnm hret hlk X0 hZ e0
  replace hown : s.vm.findClass "java/lang/StringUTF16" = some m.cls := hown
  have N0 := Fr.nil n0
  have K0 := Keep.refl h0 []
  refine oS (fun _ k => castTop (own_ef_rm_co_3_1 m a1) k) ?_
  show own_go _ _ _ _ _ _ _ (s₁.setTop (mkF m 0 #[.val (.ref a1), .val (.int (0 : Int32)), .val (.int (3 : Int32)), .unset, .unset, .unset] []))
  refine oS (fun _ k => XS.iloadN X0.here hx rfl (hb hby d7_0) rfl k) ?_
  show own_go _ _ _ _ _ _ _ (s₁.setTop (mkF m 1 #[.val (.ref a1), .val (.int (0 : Int32)), .val (.int (3 : Int32)), .unset, .unset, .unset] [(.int (3 : Int32))]))
  obtain ⟨T298, h298, k298, b298, X298, e298, g298, E298, V298, st298⟩ := own_newP X0 hx hZ (aty := .byte) (ow hw 19 rfl) e0 (g := (mkF m 1 #[.val (.ref a1), .val (.int (0 : Int32)), .val (.int (3 : Int32)), .unset, .unset, .unset] [(.int (3 : Int32))])) rfl (hb hby d7_1) rfl (by decide) (cap := 3) (by decide) (by decide) (by decide) (by decide)
  replace V298 : Arv Z h298 b298 k298 .byte (3 : Int32) [(.int (0 : Int32)), (.int (0 : Int32)), (.int (0 : Int32))] (.int (0 : Int32)) := V298
  have ge_b298 : n0 ≤ b298 := by rw [g298]; exact own_osz O0
  have sz_b298 : h0.size ≤ b298 := by rw [g298]; exact K0.1
  have ne_a1_b298 : a1 ≠ b298 := (fun q => absurd V1.lt (by rw [q, g298]; exact Nat.lt_irrefl _))
  have O298 := O0.ext E298
  have K298 := K0.ext E298
  refine oS st298 ?_
  show own_go _ _ _ _ _ _ _ (T298.setTop (mkF m 3 #[.val (.ref a1), .val (.int (0 : Int32)), .val (.int (3 : Int32)), .unset, .unset, .unset] [(.ref b298)]))
  refine oS (fun _ k => XS.astoreN X298.here hx rfl (hb hby d7_3) rfl rfl (l' := #[.val (.ref a1), .val (.int (0 : Int32)), .val (.int (3 : Int32)), .val (.ref b298), .unset, .unset]) rfl k) ?_
  refine oS (fun _ k => XS.aloadN X298.here hx rfl (hb hby d7_4) rfl rfl k) ?_
  refine oS (fun _ k => XS.iloadN X298.here hx rfl (hb hby d7_5) rfl k) ?_
  refine oS (fun _ k => XS.aloadN X298.here hx rfl (hb hby d7_6) rfl rfl k) ?_
  refine oS (fun _ k => XS.iconst X298.here hx rfl (hb hby d7_7) k) ?_
  show own_go _ _ _ _ _ _ _ (T298.setTop (mkF m 8 #[.val (.ref a1), .val (.int (0 : Int32)), .val (.int (3 : Int32)), .val (.ref b298), .unset, .unset] [(.int (0 : Int32)), (.ref b298), (.int (0 : Int32)), (.ref a1)]))
  refine oS (fun _ k => XS.iloadN X298.here hx rfl (hb hby d7_8) rfl k) ?_
  show own_go _ _ _ _ _ _ _ (T298.setTop (mkF m 9 #[.val (.ref a1), .val (.int (0 : Int32)), .val (.int (3 : Int32)), .val (.ref b298), .unset, .unset] [(.int (3 : Int32)), (.int (0 : Int32)), (.ref b298), (.int (0 : Int32)), (.ref a1)]))
  have f300 := (V1.ext E298)
  obtain ⟨v299, T299, L299, X299, hQ299, st299⟩ := own_callS X298 hx hZ (argsL := [(.ref a1), (.int (0 : Int32)), (.ref b298), (.int (0 : Int32)), (.int (3 : Int32))]) (rest := []) (rm_ci_3 l Z a0 hw a1 b298 k1 k298 c0 c1 c2 h298 n0 O298 f300 V298 ge_b298 ne_a1_b298) hown (ow hw 40 rfl) (ow hw 41 rfl) (ow hw 38 rfl) (ow hw 42 rfl) (by decide) e298 (g := (mkF m 9 #[.val (.ref a1), .val (.int (0 : Int32)), .val (.int (3 : Int32)), .val (.ref b298), .unset, .unset] [(.int (3 : Int32)), (.int (0 : Int32)), (.ref b298), (.int (0 : Int32)), (.ref a1)])) rfl (by rw [hml]; rfl) (lenOf own_pd__28_5bCI_5bBII_29I rfl) rfl (W := 0) (by show 2 * 0 + _ ≤ _; exact Nat.le_of_eq rfl) (hb hby d7_9) (by decide) (by decide) (by decide) (by decide)
  obtain ⟨z299, rfl, Nq299, Kq299, i0_299, i1_299, i2_299, i3_299⟩ := hQ299
  have N299 := Fr.app N0 Nq299
  obtain rfl := i1_299 ⟨hl0, hB⟩
  have O299 := O298.keep Kq299 (allS ge_b298 all0)
  have K299 := K298.trans Kq299 (allS (Or.inr sz_b298) all0)
  refine oS st299 ?_
  show own_go _ _ _ _ _ _ _ (T299.setTop (mkF m 12 #[.val (.ref a1), .val (.int (0 : Int32)), .val (.int (3 : Int32)), .val (.ref b298), .unset, .unset] [(.int (1 : Int32))]))
  refine oS (fun _ k => XS.istore X299.here hx rfl (hb hby d7_12) rfl (l' := #[.val (.ref a1), .val (.int (0 : Int32)), .val (.int (3 : Int32)), .val (.ref b298), .val (.int (1 : Int32)), .unset]) rfl k) ?_
  refine oS (fun _ k => XS.iload X299.here hx rfl (hb hby d7_14) rfl k) ?_
  refine oS (fun _ k => XS.iloadN X299.here hx rfl (hb hby d7_16) rfl k) ?_
  show own_go _ _ _ _ _ _ _ (T299.setTop (mkF m 17 #[.val (.ref a1), .val (.int (0 : Int32)), .val (.int (3 : Int32)), .val (.ref b298), .val (.int (1 : Int32)), .unset] [(.int (3 : Int32)), (.int (1 : Int32))]))
  refine oS (fun _ k => XS.icmpNo X299.here hx rfl (hb hby d7_17) rfl (by decide) k) ?_
  refine oS (fun _ k => XS.aloadN X299.here hx rfl (hb hby d7_20) rfl rfl k) ?_
  refine oS (fun _ k => XS.iloadN X299.here hx rfl (hb hby d7_21) rfl k) ?_
  refine oS (fun _ k => XS.iloadN X299.here hx rfl (hb hby d7_22) rfl k) ?_
  show own_go _ _ _ _ _ _ _ (T299.setTop (mkF m 23 #[.val (.ref a1), .val (.int (0 : Int32)), .val (.int (3 : Int32)), .val (.ref b298), .val (.int (1 : Int32)), .unset] [(.int (3 : Int32)), (.int (0 : Int32)), (.ref a1)]))
  have f302 := (f300.keep Kq299 (ninS ne_a1_b298 nin0))
  obtain ⟨v301, T301, L301, X301, hQ301, st301⟩ := own_callS X299 hx hZ (argsL := [(.ref a1), (.int (0 : Int32)), (.int (3 : Int32))]) (rest := []) (rm_tb_3 l Z a0 hw a1 k1 c0 c1 c2 zC vS T299.heap n0 O299 hS f302) hown (ow hw 81 rfl) (ow hw 82 rfl) (ow hw 38 rfl) (ow hw 83 rfl) (by decide) rfl (g := (mkF m 23 #[.val (.ref a1), .val (.int (0 : Int32)), .val (.int (3 : Int32)), .val (.ref b298), .val (.int (1 : Int32)), .unset] [(.int (3 : Int32)), (.int (0 : Int32)), (.ref a1)])) rfl (by rw [hml]; rfl) (lenOf own_pd__28_5bCII_29_5bB rfl) rfl (W := 0) (by show 2 * 0 + _ ≤ _; exact Nat.le_of_eq rfl) (hb hby d7_23) (by decide) (by decide) (by decide) (by decide)
  obtain ⟨r301, kr301, rfl, Nq301, Kq301, sz301, Vq301⟩ := hQ301
  have N301 := Fr.app N299 Nq301
  have ne_a1_r301 : a1 ≠ r301 := (Nat.ne_of_lt (Nat.lt_of_lt_of_le f302.lt sz301))
  have O301 := O299.keep Kq301 all0
  have K301 := K299.trans Kq301 all0
  refine oS st301 ?_
  show own_go _ _ _ _ _ _ _ (T301.setTop (mkF m 26 #[.val (.ref a1), .val (.int (0 : Int32)), .val (.int (3 : Int32)), .val (.ref b298), .val (.int (1 : Int32)), .unset] [(.ref r301)]))
  refine oS (fun _ k => XS.astore X301.here hx rfl (hb hby d7_26) rfl rfl (l' := #[.val (.ref a1), .val (.int (0 : Int32)), .val (.int (3 : Int32)), .val (.ref b298), .val (.int (1 : Int32)), .val (.ref r301)]) rfl k) ?_
  refine oS (fun _ k => XS.aload X301.here hx rfl (hb hby d7_28) rfl rfl k) ?_
  refine oS (fun _ k => XS.iload X301.here hx rfl (hb hby d7_30) rfl k) ?_
  show own_go _ _ _ _ _ _ _ (T301.setTop (mkF m 32 #[.val (.ref a1), .val (.int (0 : Int32)), .val (.int (3 : Int32)), .val (.ref b298), .val (.int (1 : Int32)), .val (.ref r301)] [(.int (1 : Int32)), (.ref r301)]))
  obtain ⟨v303, T303, L303, X303, hQ303, st303⟩ := own_callS X301 hx hZ (argsL := [(.ref r301), (.int (1 : Int32))]) (rest := []) (rm_gc_3_1 l Z a0 hw r301 kr301 c0 c1 c2 zC vS T301.heap n0 O301 hS Vq301 hc1) hown (ow hw 97 rfl) (ow hw 98 rfl) (ow hw 38 rfl) (ow hw 99 rfl) (by decide) rfl (g := (mkF m 32 #[.val (.ref a1), .val (.int (0 : Int32)), .val (.int (3 : Int32)), .val (.ref b298), .val (.int (1 : Int32)), .val (.ref r301)] [(.int (1 : Int32)), (.ref r301)])) rfl (by rw [hml]; rfl) (lenOf own_pd__28_5bBI_29C rfl) rfl (W := 0) (by show 2 * 0 + _ ≤ _; exact Nat.le_of_eq rfl) (hb hby d7_32) (by decide) (by decide) (by decide) (by decide)
  obtain ⟨rfl, Nq303, eq303⟩ := hQ303
  have N303 := Fr.app N301 Nq303
  refine oS st303 ?_
  show own_go _ _ _ _ _ _ _ (T303.setTop (mkF m 35 #[.val (.ref a1), .val (.int (0 : Int32)), .val (.int (3 : Int32)), .val (.ref b298), .val (.int (1 : Int32)), .val (.ref r301)] [(.int c1)]))
  refine oS (fun _ k => XS.sipush X303.here hx rfl (hb hby d7_35) k) ?_
  show own_go _ _ _ _ _ _ _ (T303.setTop (mkF m 38 #[.val (.ref a1), .val (.int (0 : Int32)), .val (.int (3 : Int32)), .val (.ref b298), .val (.int (1 : Int32)), .val (.ref r301)] [(.int (255 : Int32)), (.int c1)]))
  refine oS (fun _ k => XS.icmpYes X303.here hx rfl (pc0 := 38) (pc' := 54) rfl (hb hby d7_38) rfl (XT.ii_gt_t hB) (by decide) (by decide) k) ?_
  refine oS (fun _ k => XS.aload X303.here hx rfl (hb hby d7_54) rfl rfl k) ?_
  show own_go _ _ _ _ _ _ _ (T303.setTop (mkF m 56 #[.val (.ref a1), .val (.int (0 : Int32)), .val (.int (3 : Int32)), .val (.ref b298), .val (.int (1 : Int32)), .val (.ref r301)] [(.ref r301)]))
  exact own_retA X303 hx hlk hret rfl rfl (hb hby d7_56) (by decide) (by decide) (by rw [eq303]; exact ⟨_, _, rfl, N303, K301, (Nat.le_trans K299.1 sz301), Vq301⟩)
theorem own_ef_rm_co_3_2 (m : MethodId) (a1 : Addr) : entryFrame m #[(.ref a1), (.int (0 : Int32)), (.int (3 : Int32))] 6 = mkF m 0 #[.val (.ref a1), .val (.int (0 : Int32)), .val (.int (3 : Int32)), .unset, .unset, .unset] [] := by first | (simp [entryFrame, mkF, argsToLocals, Value.category]; done) | rfl
set_option maxRecDepth 65536 in
set_option maxHeartbeats 40000000 in
theorem rm_co_3_2 (l : Launch) (Z : State) (a0 : Array Value) (hw : ∀ d ∈ tables_1, d.before a0 Z = true) (a1 : Addr) (k1 : ClassId) (c0 c1 c2 : Int32) (zC : Int32) (vS : Value) (h0 : Heap) (n0 : Nat) (O0 : Old Z n0 h0) (hS : own_S Z zC vS) (V1 : Arv Z h0 a1 k1 .char (3 : Int32) [(.int c0), (.int c1), (.int c2)] (.int (0 : Int32))) (hc0 : own_ch c0) (hc1 : own_ch c1) (hc2 : own_ch c2) (hl0 : ¬ (255 : Int32) < c0) (hl1 : ¬ (255 : Int32) < c1) (hB : (255 : Int32) < c2) :
    own_Met l Z (⟨"java/lang/StringUTF16", "compress", "([CII)[B"⟩ : MethodName) jdk_52_method_16_code 6 (some (.array .byte)) [] ({ frames := 3, cells := 2, slots := 9, locals := 60 } : Room) #[(.ref a1), (.int (0 : Int32)), (.int (3 : Int32))] h0 (fun v h L => ∃ a k, v = some (.ref a) ∧ Fr n0 L ∧ Keep h0 h [] ∧ h0.size ≤ a ∧ Arv Z h a k .byte (6 : Int32) [(.int (c0.toInt8.toInt32)), (.int ((c0 >>> ((8 : Int32) &&& 31)).toInt8.toInt32)), (.int (c1.toInt8.toInt32)), (.int ((c1 >>> ((8 : Int32) &&& 31)).toInt8.toInt32)), (.int (c2.toInt8.toInt32)), (.int ((c2 >>> ((8 : Int32) &&& 31)).toInt8.toInt32))] (.int (0 : Int32))) := by
  refine own_body own_pn_7 ?_
  intro p e s m below meth c s₁ hx hby hml hown hnm hret hlk X0 hZ e0
  replace hown : s.vm.findClass "java/lang/StringUTF16" = some m.cls := hown
  have N0 := Fr.nil n0
  have K0 := Keep.refl h0 []
  refine oS (fun _ k => castTop (own_ef_rm_co_3_2 m a1) k) ?_
  show own_go _ _ _ _ _ _ _ (s₁.setTop (mkF m 0 #[.val (.ref a1), .val (.int (0 : Int32)), .val (.int (3 : Int32)), .unset, .unset, .unset] []))
  refine oS (fun _ k => XS.iloadN X0.here hx rfl (hb hby d7_0) rfl k) ?_
  show own_go _ _ _ _ _ _ _ (s₁.setTop (mkF m 1 #[.val (.ref a1), .val (.int (0 : Int32)), .val (.int (3 : Int32)), .unset, .unset, .unset] [(.int (3 : Int32))]))
  obtain ⟨T304, h304, k304, b304, X304, e304, g304, E304, V304, st304⟩ := own_newP X0 hx hZ (aty := .byte) (ow hw 19 rfl) e0 (g := (mkF m 1 #[.val (.ref a1), .val (.int (0 : Int32)), .val (.int (3 : Int32)), .unset, .unset, .unset] [(.int (3 : Int32))])) rfl (hb hby d7_1) rfl (by decide) (cap := 3) (by decide) (by decide) (by decide) (by decide)
  replace V304 : Arv Z h304 b304 k304 .byte (3 : Int32) [(.int (0 : Int32)), (.int (0 : Int32)), (.int (0 : Int32))] (.int (0 : Int32)) := V304
  have ge_b304 : n0 ≤ b304 := by rw [g304]; exact own_osz O0
  have sz_b304 : h0.size ≤ b304 := by rw [g304]; exact K0.1
  have ne_a1_b304 : a1 ≠ b304 := (fun q => absurd V1.lt (by rw [q, g304]; exact Nat.lt_irrefl _))
  have O304 := O0.ext E304
  have K304 := K0.ext E304
  refine oS st304 ?_
  show own_go _ _ _ _ _ _ _ (T304.setTop (mkF m 3 #[.val (.ref a1), .val (.int (0 : Int32)), .val (.int (3 : Int32)), .unset, .unset, .unset] [(.ref b304)]))
  refine oS (fun _ k => XS.astoreN X304.here hx rfl (hb hby d7_3) rfl rfl (l' := #[.val (.ref a1), .val (.int (0 : Int32)), .val (.int (3 : Int32)), .val (.ref b304), .unset, .unset]) rfl k) ?_
  refine oS (fun _ k => XS.aloadN X304.here hx rfl (hb hby d7_4) rfl rfl k) ?_
  refine oS (fun _ k => XS.iloadN X304.here hx rfl (hb hby d7_5) rfl k) ?_
  refine oS (fun _ k => XS.aloadN X304.here hx rfl (hb hby d7_6) rfl rfl k) ?_
  refine oS (fun _ k => XS.iconst X304.here hx rfl (hb hby d7_7) k) ?_
  show own_go _ _ _ _ _ _ _ (T304.setTop (mkF m 8 #[.val (.ref a1), .val (.int (0 : Int32)), .val (.int (3 : Int32)), .val (.ref b304), .unset, .unset] [(.int (0 : Int32)), (.ref b304), (.int (0 : Int32)), (.ref a1)]))
  refine oS (fun _ k => XS.iloadN X304.here hx rfl (hb hby d7_8) rfl k) ?_
  show own_go _ _ _ _ _ _ _ (T304.setTop (mkF m 9 #[.val (.ref a1), .val (.int (0 : Int32)), .val (.int (3 : Int32)), .val (.ref b304), .unset, .unset] [(.int (3 : Int32)), (.int (0 : Int32)), (.ref b304), (.int (0 : Int32)), (.ref a1)]))
  have f306 := (V1.ext E304)
  obtain ⟨v305, T305, L305, X305, hQ305, st305⟩ := own_callS X304 hx hZ (argsL := [(.ref a1), (.int (0 : Int32)), (.ref b304), (.int (0 : Int32)), (.int (3 : Int32))]) (rest := []) (rm_ci_3 l Z a0 hw a1 b304 k1 k304 c0 c1 c2 h304 n0 O304 f306 V304 ge_b304 ne_a1_b304) hown (ow hw 40 rfl) (ow hw 41 rfl) (ow hw 38 rfl) (ow hw 42 rfl) (by decide) e304 (g := (mkF m 9 #[.val (.ref a1), .val (.int (0 : Int32)), .val (.int (3 : Int32)), .val (.ref b304), .unset, .unset] [(.int (3 : Int32)), (.int (0 : Int32)), (.ref b304), (.int (0 : Int32)), (.ref a1)])) rfl (by rw [hml]; rfl) (lenOf own_pd__28_5bCI_5bBII_29I rfl) rfl (W := 0) (by show 2 * 0 + _ ≤ _; exact Nat.le_of_eq rfl) (hb hby d7_9) (by decide) (by decide) (by decide) (by decide)
  obtain ⟨z305, rfl, Nq305, Kq305, i0_305, i1_305, i2_305, i3_305⟩ := hQ305
  have N305 := Fr.app N0 Nq305
  obtain rfl := i2_305 ⟨hl0, hl1, hB⟩
  have O305 := O304.keep Kq305 (allS ge_b304 all0)
  have K305 := K304.trans Kq305 (allS (Or.inr sz_b304) all0)
  refine oS st305 ?_
  show own_go _ _ _ _ _ _ _ (T305.setTop (mkF m 12 #[.val (.ref a1), .val (.int (0 : Int32)), .val (.int (3 : Int32)), .val (.ref b304), .unset, .unset] [(.int (2 : Int32))]))
  refine oS (fun _ k => XS.istore X305.here hx rfl (hb hby d7_12) rfl (l' := #[.val (.ref a1), .val (.int (0 : Int32)), .val (.int (3 : Int32)), .val (.ref b304), .val (.int (2 : Int32)), .unset]) rfl k) ?_
  refine oS (fun _ k => XS.iload X305.here hx rfl (hb hby d7_14) rfl k) ?_
  refine oS (fun _ k => XS.iloadN X305.here hx rfl (hb hby d7_16) rfl k) ?_
  show own_go _ _ _ _ _ _ _ (T305.setTop (mkF m 17 #[.val (.ref a1), .val (.int (0 : Int32)), .val (.int (3 : Int32)), .val (.ref b304), .val (.int (2 : Int32)), .unset] [(.int (3 : Int32)), (.int (2 : Int32))]))
  refine oS (fun _ k => XS.icmpNo X305.here hx rfl (hb hby d7_17) rfl (by decide) k) ?_
  refine oS (fun _ k => XS.aloadN X305.here hx rfl (hb hby d7_20) rfl rfl k) ?_
  refine oS (fun _ k => XS.iloadN X305.here hx rfl (hb hby d7_21) rfl k) ?_
  refine oS (fun _ k => XS.iloadN X305.here hx rfl (hb hby d7_22) rfl k) ?_
  show own_go _ _ _ _ _ _ _ (T305.setTop (mkF m 23 #[.val (.ref a1), .val (.int (0 : Int32)), .val (.int (3 : Int32)), .val (.ref b304), .val (.int (2 : Int32)), .unset] [(.int (3 : Int32)), (.int (0 : Int32)), (.ref a1)]))
  have f308 := (f306.keep Kq305 (ninS ne_a1_b304 nin0))
  obtain ⟨v307, T307, L307, X307, hQ307, st307⟩ := own_callS X305 hx hZ (argsL := [(.ref a1), (.int (0 : Int32)), (.int (3 : Int32))]) (rest := []) (rm_tb_3 l Z a0 hw a1 k1 c0 c1 c2 zC vS T305.heap n0 O305 hS f308) hown (ow hw 81 rfl) (ow hw 82 rfl) (ow hw 38 rfl) (ow hw 83 rfl) (by decide) rfl (g := (mkF m 23 #[.val (.ref a1), .val (.int (0 : Int32)), .val (.int (3 : Int32)), .val (.ref b304), .val (.int (2 : Int32)), .unset] [(.int (3 : Int32)), (.int (0 : Int32)), (.ref a1)])) rfl (by rw [hml]; rfl) (lenOf own_pd__28_5bCII_29_5bB rfl) rfl (W := 0) (by show 2 * 0 + _ ≤ _; exact Nat.le_of_eq rfl) (hb hby d7_23) (by decide) (by decide) (by decide) (by decide)
  obtain ⟨r307, kr307, rfl, Nq307, Kq307, sz307, Vq307⟩ := hQ307
  have N307 := Fr.app N305 Nq307
  have ne_a1_r307 : a1 ≠ r307 := (Nat.ne_of_lt (Nat.lt_of_lt_of_le f308.lt sz307))
  have O307 := O305.keep Kq307 all0
  have K307 := K305.trans Kq307 all0
  refine oS st307 ?_
  show own_go _ _ _ _ _ _ _ (T307.setTop (mkF m 26 #[.val (.ref a1), .val (.int (0 : Int32)), .val (.int (3 : Int32)), .val (.ref b304), .val (.int (2 : Int32)), .unset] [(.ref r307)]))
  refine oS (fun _ k => XS.astore X307.here hx rfl (hb hby d7_26) rfl rfl (l' := #[.val (.ref a1), .val (.int (0 : Int32)), .val (.int (3 : Int32)), .val (.ref b304), .val (.int (2 : Int32)), .val (.ref r307)]) rfl k) ?_
  refine oS (fun _ k => XS.aload X307.here hx rfl (hb hby d7_28) rfl rfl k) ?_
  refine oS (fun _ k => XS.iload X307.here hx rfl (hb hby d7_30) rfl k) ?_
  show own_go _ _ _ _ _ _ _ (T307.setTop (mkF m 32 #[.val (.ref a1), .val (.int (0 : Int32)), .val (.int (3 : Int32)), .val (.ref b304), .val (.int (2 : Int32)), .val (.ref r307)] [(.int (2 : Int32)), (.ref r307)]))
  obtain ⟨v309, T309, L309, X309, hQ309, st309⟩ := own_callS X307 hx hZ (argsL := [(.ref r307), (.int (2 : Int32))]) (rest := []) (rm_gc_3_2 l Z a0 hw r307 kr307 c0 c1 c2 zC vS T307.heap n0 O307 hS Vq307 hc2) hown (ow hw 97 rfl) (ow hw 98 rfl) (ow hw 38 rfl) (ow hw 99 rfl) (by decide) rfl (g := (mkF m 32 #[.val (.ref a1), .val (.int (0 : Int32)), .val (.int (3 : Int32)), .val (.ref b304), .val (.int (2 : Int32)), .val (.ref r307)] [(.int (2 : Int32)), (.ref r307)])) rfl (by rw [hml]; rfl) (lenOf own_pd__28_5bBI_29C rfl) rfl (W := 0) (by show 2 * 0 + _ ≤ _; exact Nat.le_of_eq rfl) (hb hby d7_32) (by decide) (by decide) (by decide) (by decide)
  obtain ⟨rfl, Nq309, eq309⟩ := hQ309
  have N309 := Fr.app N307 Nq309
  refine oS st309 ?_
  show own_go _ _ _ _ _ _ _ (T309.setTop (mkF m 35 #[.val (.ref a1), .val (.int (0 : Int32)), .val (.int (3 : Int32)), .val (.ref b304), .val (.int (2 : Int32)), .val (.ref r307)] [(.int c2)]))
  refine oS (fun _ k => XS.sipush X309.here hx rfl (hb hby d7_35) k) ?_
  show own_go _ _ _ _ _ _ _ (T309.setTop (mkF m 38 #[.val (.ref a1), .val (.int (0 : Int32)), .val (.int (3 : Int32)), .val (.ref b304), .val (.int (2 : Int32)), .val (.ref r307)] [(.int (255 : Int32)), (.int c2)]))
  refine oS (fun _ k => XS.icmpYes X309.here hx rfl (pc0 := 38) (pc' := 54) rfl (hb hby d7_38) rfl (XT.ii_gt_t hB) (by decide) (by decide) k) ?_
  refine oS (fun _ k => XS.aload X309.here hx rfl (hb hby d7_54) rfl rfl k) ?_
  show own_go _ _ _ _ _ _ _ (T309.setTop (mkF m 56 #[.val (.ref a1), .val (.int (0 : Int32)), .val (.int (3 : Int32)), .val (.ref b304), .val (.int (2 : Int32)), .val (.ref r307)] [(.ref r307)]))
  exact own_retA X309 hx hlk hret rfl rfl (hb hby d7_56) (by decide) (by decide) (by rw [eq309]; exact ⟨_, _, rfl, N309, K307, (Nat.le_trans K305.1 sz307), Vq307⟩)
theorem own_ef_rm_co_3_3 (m : MethodId) (a1 : Addr) : entryFrame m #[(.ref a1), (.int (0 : Int32)), (.int (3 : Int32))] 6 = mkF m 0 #[.val (.ref a1), .val (.int (0 : Int32)), .val (.int (3 : Int32)), .unset, .unset, .unset] [] := by first | (simp [entryFrame, mkF, argsToLocals, Value.category]; done) | rfl
set_option maxRecDepth 65536 in
set_option maxHeartbeats 40000000 in
theorem rm_co_3_3 (l : Launch) (Z : State) (a0 : Array Value) (hw : ∀ d ∈ tables_1, d.before a0 Z = true) (a1 : Addr) (k1 : ClassId) (c0 c1 c2 : Int32) (zC : Int32) (vS : Value) (h0 : Heap) (n0 : Nat) (O0 : Old Z n0 h0) (hS : own_S Z zC vS) (V1 : Arv Z h0 a1 k1 .char (3 : Int32) [(.int c0), (.int c1), (.int c2)] (.int (0 : Int32))) (hc0 : own_ch c0) (hc1 : own_ch c1) (hc2 : own_ch c2) (hl0 : ¬ (255 : Int32) < c0) (hl1 : ¬ (255 : Int32) < c1) (hl2 : ¬ (255 : Int32) < c2) :
    own_Met l Z (⟨"java/lang/StringUTF16", "compress", "([CII)[B"⟩ : MethodName) jdk_52_method_16_code 6 (some (.array .byte)) [] ({ frames := 3, cells := 2, slots := 9, locals := 60 } : Room) #[(.ref a1), (.int (0 : Int32)), (.int (3 : Int32))] h0 (fun v h L => ∃ a k, v = some (.ref a) ∧ Fr n0 L ∧ Keep h0 h [] ∧ h0.size ≤ a ∧ Arv Z h a k .byte (3 : Int32) [(.int (c0.toInt8.toInt32)), (.int (c1.toInt8.toInt32)), (.int (c2.toInt8.toInt32))] (.int (0 : Int32))) := by
  refine own_body own_pn_7 ?_
  intro p e s m below meth c s₁ hx hby hml hown hnm hret hlk X0 hZ e0
  replace hown : s.vm.findClass "java/lang/StringUTF16" = some m.cls := hown
  have N0 := Fr.nil n0
  have K0 := Keep.refl h0 []
  refine oS (fun _ k => castTop (own_ef_rm_co_3_3 m a1) k) ?_
  show own_go _ _ _ _ _ _ _ (s₁.setTop (mkF m 0 #[.val (.ref a1), .val (.int (0 : Int32)), .val (.int (3 : Int32)), .unset, .unset, .unset] []))
  refine oS (fun _ k => XS.iloadN X0.here hx rfl (hb hby d7_0) rfl k) ?_
  show own_go _ _ _ _ _ _ _ (s₁.setTop (mkF m 1 #[.val (.ref a1), .val (.int (0 : Int32)), .val (.int (3 : Int32)), .unset, .unset, .unset] [(.int (3 : Int32))]))
  obtain ⟨T310, h310, k310, b310, X310, e310, g310, E310, V310, st310⟩ := own_newP X0 hx hZ (aty := .byte) (ow hw 19 rfl) e0 (g := (mkF m 1 #[.val (.ref a1), .val (.int (0 : Int32)), .val (.int (3 : Int32)), .unset, .unset, .unset] [(.int (3 : Int32))])) rfl (hb hby d7_1) rfl (by decide) (cap := 3) (by decide) (by decide) (by decide) (by decide)
  replace V310 : Arv Z h310 b310 k310 .byte (3 : Int32) [(.int (0 : Int32)), (.int (0 : Int32)), (.int (0 : Int32))] (.int (0 : Int32)) := V310
  have ge_b310 : n0 ≤ b310 := by rw [g310]; exact own_osz O0
  have sz_b310 : h0.size ≤ b310 := by rw [g310]; exact K0.1
  have ne_a1_b310 : a1 ≠ b310 := (fun q => absurd V1.lt (by rw [q, g310]; exact Nat.lt_irrefl _))
  have O310 := O0.ext E310
  have K310 := K0.ext E310
  refine oS st310 ?_
  show own_go _ _ _ _ _ _ _ (T310.setTop (mkF m 3 #[.val (.ref a1), .val (.int (0 : Int32)), .val (.int (3 : Int32)), .unset, .unset, .unset] [(.ref b310)]))
  refine oS (fun _ k => XS.astoreN X310.here hx rfl (hb hby d7_3) rfl rfl (l' := #[.val (.ref a1), .val (.int (0 : Int32)), .val (.int (3 : Int32)), .val (.ref b310), .unset, .unset]) rfl k) ?_
  refine oS (fun _ k => XS.aloadN X310.here hx rfl (hb hby d7_4) rfl rfl k) ?_
  refine oS (fun _ k => XS.iloadN X310.here hx rfl (hb hby d7_5) rfl k) ?_
  refine oS (fun _ k => XS.aloadN X310.here hx rfl (hb hby d7_6) rfl rfl k) ?_
  refine oS (fun _ k => XS.iconst X310.here hx rfl (hb hby d7_7) k) ?_
  show own_go _ _ _ _ _ _ _ (T310.setTop (mkF m 8 #[.val (.ref a1), .val (.int (0 : Int32)), .val (.int (3 : Int32)), .val (.ref b310), .unset, .unset] [(.int (0 : Int32)), (.ref b310), (.int (0 : Int32)), (.ref a1)]))
  refine oS (fun _ k => XS.iloadN X310.here hx rfl (hb hby d7_8) rfl k) ?_
  show own_go _ _ _ _ _ _ _ (T310.setTop (mkF m 9 #[.val (.ref a1), .val (.int (0 : Int32)), .val (.int (3 : Int32)), .val (.ref b310), .unset, .unset] [(.int (3 : Int32)), (.int (0 : Int32)), (.ref b310), (.int (0 : Int32)), (.ref a1)]))
  have f312 := (V1.ext E310)
  obtain ⟨v311, T311, L311, X311, hQ311, st311⟩ := own_callS X310 hx hZ (argsL := [(.ref a1), (.int (0 : Int32)), (.ref b310), (.int (0 : Int32)), (.int (3 : Int32))]) (rest := []) (rm_ci_3 l Z a0 hw a1 b310 k1 k310 c0 c1 c2 h310 n0 O310 f312 V310 ge_b310 ne_a1_b310) hown (ow hw 40 rfl) (ow hw 41 rfl) (ow hw 38 rfl) (ow hw 42 rfl) (by decide) e310 (g := (mkF m 9 #[.val (.ref a1), .val (.int (0 : Int32)), .val (.int (3 : Int32)), .val (.ref b310), .unset, .unset] [(.int (3 : Int32)), (.int (0 : Int32)), (.ref b310), (.int (0 : Int32)), (.ref a1)])) rfl (by rw [hml]; rfl) (lenOf own_pd__28_5bCI_5bBII_29I rfl) rfl (W := 0) (by show 2 * 0 + _ ≤ _; exact Nat.le_of_eq rfl) (hb hby d7_9) (by decide) (by decide) (by decide) (by decide)
  obtain ⟨z311, rfl, Nq311, Kq311, i0_311, i1_311, i2_311, i3_311⟩ := hQ311
  have N311 := Fr.app N0 Nq311
  obtain ⟨rfl, Vq311⟩ := i3_311 ⟨hl0, hl1, hl2⟩
  have O311 := O310.keep Kq311 (allS ge_b310 all0)
  have K311 := K310.trans Kq311 (allS (Or.inr sz_b310) all0)
  refine oS st311 ?_
  show own_go _ _ _ _ _ _ _ (T311.setTop (mkF m 12 #[.val (.ref a1), .val (.int (0 : Int32)), .val (.int (3 : Int32)), .val (.ref b310), .unset, .unset] [(.int (3 : Int32))]))
  refine oS (fun _ k => XS.istore X311.here hx rfl (hb hby d7_12) rfl (l' := #[.val (.ref a1), .val (.int (0 : Int32)), .val (.int (3 : Int32)), .val (.ref b310), .val (.int (3 : Int32)), .unset]) rfl k) ?_
  refine oS (fun _ k => XS.iload X311.here hx rfl (hb hby d7_14) rfl k) ?_
  refine oS (fun _ k => XS.iloadN X311.here hx rfl (hb hby d7_16) rfl k) ?_
  show own_go _ _ _ _ _ _ _ (T311.setTop (mkF m 17 #[.val (.ref a1), .val (.int (0 : Int32)), .val (.int (3 : Int32)), .val (.ref b310), .val (.int (3 : Int32)), .unset] [(.int (3 : Int32)), (.int (3 : Int32))]))
  refine oS (fun _ k => XS.icmpYes X311.here hx rfl (pc0 := 17) (pc' := 57) rfl (hb hby d7_17) rfl (by decide) (by decide) (by decide) k) ?_
  refine oS (fun _ k => XS.aloadN X311.here hx rfl (hb hby d7_57) rfl rfl k) ?_
  show own_go _ _ _ _ _ _ _ (T311.setTop (mkF m 58 #[.val (.ref a1), .val (.int (0 : Int32)), .val (.int (3 : Int32)), .val (.ref b310), .val (.int (3 : Int32)), .unset] [(.ref b310)]))
  exact own_retA X311 hx hlk hret rfl rfl (hb hby d7_58) (by decide) (by decide) ⟨_, _, rfl, N311, K311, sz_b310, Vq311⟩
theorem d9_0 : decode jdk_52_method_15_code 0 = .ok (.iload_n 1, 1) := by decide +kernel
theorem d9_1 : decode jdk_52_method_15_code 1 = .ok (.aload_n 0, 1) := by decide +kernel
theorem d9_2 : decode jdk_52_method_15_code 2 = .ok (.arraylength, 1) := by decide +kernel
theorem d9_3 : decode jdk_52_method_15_code 3 = .ok (.isub, 1) := by decide +kernel
theorem d9_4 : decode jdk_52_method_15_code 4 = .ok (.bipush 31, 2) := by decide +kernel
theorem d9_6 : decode jdk_52_method_15_code 6 = .ok (.iushr, 1) := by decide +kernel
theorem d9_7 : decode jdk_52_method_15_code 7 = .ok (.i2b, 1) := by decide +kernel
theorem d9_8 : decode jdk_52_method_15_code 8 = .ok (.ireturn, 1) := by decide +kernel
theorem own_pn_9 : plainFor (⟨"java/lang/StringUTF16", "coderFromArrayLen", "([BI)B"⟩ : MethodName) = true := plainFor_of_name (show plainName "java/lang/StringUTF16" = true by first | (simp [plainName, overriddenIn]; done) | decide +kernel)
theorem own_ef_rm_cfL_1 (m : MethodId) (t : Addr) : entryFrame m #[(.ref t), (.int (1 : Int32))] 2 = mkF m 0 #[.val (.ref t), .val (.int (1 : Int32))] [] := by first | (simp [entryFrame, mkF, argsToLocals, Value.category]; done) | rfl
set_option maxRecDepth 65536 in
set_option maxHeartbeats 40000000 in
theorem rm_cfL_1 (l : Launch) (Z : State) (a0 : Array Value) (hw : ∀ d ∈ tables_1, d.before a0 Z = true) (t : Addr) (k : ClassId) (vs : List Value) (h0 : Heap) (n0 : Nat) (O0 : Old Z n0 h0) (V1 : Arv Z h0 t k .byte (1 : Int32) vs (.int (0 : Int32))) :
    own_Met l Z (⟨"java/lang/StringUTF16", "coderFromArrayLen", "([BI)B"⟩ : MethodName) jdk_52_method_15_code 2 (some .byte) [] ({ frames := 0, cells := 0, slots := 0, locals := 0 } : Room) #[(.ref t), (.int (1 : Int32))] h0 (fun v h L => v = some (.int (0 : Int32)) ∧ Fr n0 L ∧ h = h0) := by
  refine own_body own_pn_9 ?_
  intro p e s m below meth c s₁ hx hby hml hown hnm hret hlk X0 hZ e0
  replace hown : s.vm.findClass "java/lang/StringUTF16" = some m.cls := hown
  have N0 := Fr.nil n0
  have K0 := Keep.refl h0 []
  refine oS (fun _ k => castTop (own_ef_rm_cfL_1 m t) k) ?_
  show own_go _ _ _ _ _ _ _ (s₁.setTop (mkF m 0 #[.val (.ref t), .val (.int (1 : Int32))] []))
  refine oS (fun _ k => XS.iloadN X0.here hx rfl (hb hby d9_0) rfl k) ?_
  refine oS (fun _ k => XS.aloadN X0.here hx rfl (hb hby d9_1) rfl rfl k) ?_
  show own_go _ _ _ _ _ _ _ (s₁.setTop (mkF m 2 #[.val (.ref t), .val (.int (1 : Int32))] [(.ref t), (.int (1 : Int32))]))
  refine oS (own_len X0 hx hZ e0 V1 (g := (mkF m 2 #[.val (.ref t), .val (.int (1 : Int32))] [(.ref t), (.int (1 : Int32))])) rfl rfl (hb hby d9_2)) ?_
  show own_go _ _ _ _ _ _ _ (s₁.setTop (mkF m 3 #[.val (.ref t), .val (.int (1 : Int32))] [(.int (1 : Int32)), (.int (1 : Int32))]))
  refine oS (fun _ k => XS.isub X0.here hx rfl (hb hby d9_3) rfl k) ?_
  show own_go _ _ _ _ _ _ _ (s₁.setTop (mkF m 4 #[.val (.ref t), .val (.int (1 : Int32))] [(.int ((1 : Int32) - (1 : Int32)))]))
  rw [(by decide : ((1 : Int32) - (1 : Int32)) = (0 : Int32))]
  show own_go _ _ _ _ _ _ _ (s₁.setTop (mkF m 4 #[.val (.ref t), .val (.int (1 : Int32))] [(.int (0 : Int32))]))
  refine oS (fun _ k => XS.bipush X0.here hx rfl (hb hby d9_4) k) ?_
  refine oS (fun _ k => XS.iushr X0.here hx rfl (hb hby d9_6) rfl k) ?_
  show own_go _ _ _ _ _ _ _ (s₁.setTop (mkF m 7 #[.val (.ref t), .val (.int (1 : Int32))] [(.int (((0 : Int32).toUInt32 >>> ((31 : Int32) &&& 31).toUInt32).toInt32))]))
  rw [(by decide : (((0 : Int32).toUInt32 >>> ((31 : Int32) &&& 31).toUInt32).toInt32) = (0 : Int32))]
  show own_go _ _ _ _ _ _ _ (s₁.setTop (mkF m 7 #[.val (.ref t), .val (.int (1 : Int32))] [(.int (0 : Int32))]))
  refine oS (fun _ k => XS.i2b X0.here hx rfl (hb hby d9_7) rfl k) ?_
  show own_go _ _ _ _ _ _ _ (s₁.setTop (mkF m 8 #[.val (.ref t), .val (.int (1 : Int32))] [(.int ((0 : Int32).toInt8.toInt32))]))
  rw [(by decide : ((0 : Int32).toInt8.toInt32) = (0 : Int32))]
  show own_go _ _ _ _ _ _ _ (s₁.setTop (mkF m 8 #[.val (.ref t), .val (.int (1 : Int32))] [(.int (0 : Int32))]))
  exact own_retN X0 hx hlk (t := .byte) hret (by simp) rfl (hb hby d9_8) (by decide) (by decide) (⟨rfl, N0, e0⟩)
theorem own_ef_rm_cfL_2 (m : MethodId) (t : Addr) : entryFrame m #[(.ref t), (.int (2 : Int32))] 2 = mkF m 0 #[.val (.ref t), .val (.int (2 : Int32))] [] := by first | (simp [entryFrame, mkF, argsToLocals, Value.category]; done) | rfl
set_option maxRecDepth 65536 in
set_option maxHeartbeats 40000000 in
theorem rm_cfL_2 (l : Launch) (Z : State) (a0 : Array Value) (hw : ∀ d ∈ tables_1, d.before a0 Z = true) (t : Addr) (k : ClassId) (vs : List Value) (h0 : Heap) (n0 : Nat) (O0 : Old Z n0 h0) (V1 : Arv Z h0 t k .byte (2 : Int32) vs (.int (0 : Int32))) :
    own_Met l Z (⟨"java/lang/StringUTF16", "coderFromArrayLen", "([BI)B"⟩ : MethodName) jdk_52_method_15_code 2 (some .byte) [] ({ frames := 0, cells := 0, slots := 0, locals := 0 } : Room) #[(.ref t), (.int (2 : Int32))] h0 (fun v h L => v = some (.int (0 : Int32)) ∧ Fr n0 L ∧ h = h0) := by
  refine own_body own_pn_9 ?_
  intro p e s m below meth c s₁ hx hby hml hown hnm hret hlk X0 hZ e0
  replace hown : s.vm.findClass "java/lang/StringUTF16" = some m.cls := hown
  have N0 := Fr.nil n0
  have K0 := Keep.refl h0 []
  refine oS (fun _ k => castTop (own_ef_rm_cfL_2 m t) k) ?_
  show own_go _ _ _ _ _ _ _ (s₁.setTop (mkF m 0 #[.val (.ref t), .val (.int (2 : Int32))] []))
  refine oS (fun _ k => XS.iloadN X0.here hx rfl (hb hby d9_0) rfl k) ?_
  refine oS (fun _ k => XS.aloadN X0.here hx rfl (hb hby d9_1) rfl rfl k) ?_
  show own_go _ _ _ _ _ _ _ (s₁.setTop (mkF m 2 #[.val (.ref t), .val (.int (2 : Int32))] [(.ref t), (.int (2 : Int32))]))
  refine oS (own_len X0 hx hZ e0 V1 (g := (mkF m 2 #[.val (.ref t), .val (.int (2 : Int32))] [(.ref t), (.int (2 : Int32))])) rfl rfl (hb hby d9_2)) ?_
  show own_go _ _ _ _ _ _ _ (s₁.setTop (mkF m 3 #[.val (.ref t), .val (.int (2 : Int32))] [(.int (2 : Int32)), (.int (2 : Int32))]))
  refine oS (fun _ k => XS.isub X0.here hx rfl (hb hby d9_3) rfl k) ?_
  show own_go _ _ _ _ _ _ _ (s₁.setTop (mkF m 4 #[.val (.ref t), .val (.int (2 : Int32))] [(.int ((2 : Int32) - (2 : Int32)))]))
  rw [(by decide : ((2 : Int32) - (2 : Int32)) = (0 : Int32))]
  show own_go _ _ _ _ _ _ _ (s₁.setTop (mkF m 4 #[.val (.ref t), .val (.int (2 : Int32))] [(.int (0 : Int32))]))
  refine oS (fun _ k => XS.bipush X0.here hx rfl (hb hby d9_4) k) ?_
  refine oS (fun _ k => XS.iushr X0.here hx rfl (hb hby d9_6) rfl k) ?_
  show own_go _ _ _ _ _ _ _ (s₁.setTop (mkF m 7 #[.val (.ref t), .val (.int (2 : Int32))] [(.int (((0 : Int32).toUInt32 >>> ((31 : Int32) &&& 31).toUInt32).toInt32))]))
  rw [(by decide : (((0 : Int32).toUInt32 >>> ((31 : Int32) &&& 31).toUInt32).toInt32) = (0 : Int32))]
  show own_go _ _ _ _ _ _ _ (s₁.setTop (mkF m 7 #[.val (.ref t), .val (.int (2 : Int32))] [(.int (0 : Int32))]))
  refine oS (fun _ k => XS.i2b X0.here hx rfl (hb hby d9_7) rfl k) ?_
  show own_go _ _ _ _ _ _ _ (s₁.setTop (mkF m 8 #[.val (.ref t), .val (.int (2 : Int32))] [(.int ((0 : Int32).toInt8.toInt32))]))
  rw [(by decide : ((0 : Int32).toInt8.toInt32) = (0 : Int32))]
  show own_go _ _ _ _ _ _ _ (s₁.setTop (mkF m 8 #[.val (.ref t), .val (.int (2 : Int32))] [(.int (0 : Int32))]))
  exact own_retN X0 hx hlk (t := .byte) hret (by simp) rfl (hb hby d9_8) (by decide) (by decide) (⟨rfl, N0, e0⟩)
theorem own_ef_rm_cfL_3 (m : MethodId) (t : Addr) : entryFrame m #[(.ref t), (.int (3 : Int32))] 2 = mkF m 0 #[.val (.ref t), .val (.int (3 : Int32))] [] := by first | (simp [entryFrame, mkF, argsToLocals, Value.category]; done) | rfl
set_option maxRecDepth 65536 in
set_option maxHeartbeats 40000000 in
theorem rm_cfL_3 (l : Launch) (Z : State) (a0 : Array Value) (hw : ∀ d ∈ tables_1, d.before a0 Z = true) (t : Addr) (k : ClassId) (vs : List Value) (h0 : Heap) (n0 : Nat) (O0 : Old Z n0 h0) (V1 : Arv Z h0 t k .byte (3 : Int32) vs (.int (0 : Int32))) :
    own_Met l Z (⟨"java/lang/StringUTF16", "coderFromArrayLen", "([BI)B"⟩ : MethodName) jdk_52_method_15_code 2 (some .byte) [] ({ frames := 0, cells := 0, slots := 0, locals := 0 } : Room) #[(.ref t), (.int (3 : Int32))] h0 (fun v h L => v = some (.int (0 : Int32)) ∧ Fr n0 L ∧ h = h0) := by
  refine own_body own_pn_9 ?_
  intro p e s m below meth c s₁ hx hby hml hown hnm hret hlk X0 hZ e0
  replace hown : s.vm.findClass "java/lang/StringUTF16" = some m.cls := hown
  have N0 := Fr.nil n0
  have K0 := Keep.refl h0 []
  refine oS (fun _ k => castTop (own_ef_rm_cfL_3 m t) k) ?_
  show own_go _ _ _ _ _ _ _ (s₁.setTop (mkF m 0 #[.val (.ref t), .val (.int (3 : Int32))] []))
  refine oS (fun _ k => XS.iloadN X0.here hx rfl (hb hby d9_0) rfl k) ?_
  refine oS (fun _ k => XS.aloadN X0.here hx rfl (hb hby d9_1) rfl rfl k) ?_
  show own_go _ _ _ _ _ _ _ (s₁.setTop (mkF m 2 #[.val (.ref t), .val (.int (3 : Int32))] [(.ref t), (.int (3 : Int32))]))
  refine oS (own_len X0 hx hZ e0 V1 (g := (mkF m 2 #[.val (.ref t), .val (.int (3 : Int32))] [(.ref t), (.int (3 : Int32))])) rfl rfl (hb hby d9_2)) ?_
  show own_go _ _ _ _ _ _ _ (s₁.setTop (mkF m 3 #[.val (.ref t), .val (.int (3 : Int32))] [(.int (3 : Int32)), (.int (3 : Int32))]))
  refine oS (fun _ k => XS.isub X0.here hx rfl (hb hby d9_3) rfl k) ?_
  show own_go _ _ _ _ _ _ _ (s₁.setTop (mkF m 4 #[.val (.ref t), .val (.int (3 : Int32))] [(.int ((3 : Int32) - (3 : Int32)))]))
  rw [(by decide : ((3 : Int32) - (3 : Int32)) = (0 : Int32))]
  show own_go _ _ _ _ _ _ _ (s₁.setTop (mkF m 4 #[.val (.ref t), .val (.int (3 : Int32))] [(.int (0 : Int32))]))
  refine oS (fun _ k => XS.bipush X0.here hx rfl (hb hby d9_4) k) ?_
  refine oS (fun _ k => XS.iushr X0.here hx rfl (hb hby d9_6) rfl k) ?_
  show own_go _ _ _ _ _ _ _ (s₁.setTop (mkF m 7 #[.val (.ref t), .val (.int (3 : Int32))] [(.int (((0 : Int32).toUInt32 >>> ((31 : Int32) &&& 31).toUInt32).toInt32))]))
  rw [(by decide : (((0 : Int32).toUInt32 >>> ((31 : Int32) &&& 31).toUInt32).toInt32) = (0 : Int32))]
  show own_go _ _ _ _ _ _ _ (s₁.setTop (mkF m 7 #[.val (.ref t), .val (.int (3 : Int32))] [(.int (0 : Int32))]))
  refine oS (fun _ k => XS.i2b X0.here hx rfl (hb hby d9_7) rfl k) ?_
  show own_go _ _ _ _ _ _ _ (s₁.setTop (mkF m 8 #[.val (.ref t), .val (.int (3 : Int32))] [(.int ((0 : Int32).toInt8.toInt32))]))
  rw [(by decide : ((0 : Int32).toInt8.toInt32) = (0 : Int32))]
  show own_go _ _ _ _ _ _ _ (s₁.setTop (mkF m 8 #[.val (.ref t), .val (.int (3 : Int32))] [(.int (0 : Int32))]))
  exact own_retN X0 hx hlk (t := .byte) hret (by simp) rfl (hb hby d9_8) (by decide) (by decide) (⟨rfl, N0, e0⟩)
theorem own_ef_rm_cfW_1 (m : MethodId) (t : Addr) : entryFrame m #[(.ref t), (.int (1 : Int32))] 2 = mkF m 0 #[.val (.ref t), .val (.int (1 : Int32))] [] := by first | (simp [entryFrame, mkF, argsToLocals, Value.category]; done) | rfl
set_option maxRecDepth 65536 in
set_option maxHeartbeats 40000000 in
theorem rm_cfW_1 (l : Launch) (Z : State) (a0 : Array Value) (hw : ∀ d ∈ tables_1, d.before a0 Z = true) (t : Addr) (k : ClassId) (vs : List Value) (h0 : Heap) (n0 : Nat) (O0 : Old Z n0 h0) (V1 : Arv Z h0 t k .byte (2 : Int32) vs (.int (0 : Int32))) :
    own_Met l Z (⟨"java/lang/StringUTF16", "coderFromArrayLen", "([BI)B"⟩ : MethodName) jdk_52_method_15_code 2 (some .byte) [] ({ frames := 0, cells := 0, slots := 0, locals := 0 } : Room) #[(.ref t), (.int (1 : Int32))] h0 (fun v h L => v = some (.int (1 : Int32)) ∧ Fr n0 L ∧ h = h0) := by
  refine own_body own_pn_9 ?_
  intro p e s m below meth c s₁ hx hby hml hown hnm hret hlk X0 hZ e0
  replace hown : s.vm.findClass "java/lang/StringUTF16" = some m.cls := hown
  have N0 := Fr.nil n0
  have K0 := Keep.refl h0 []
  refine oS (fun _ k => castTop (own_ef_rm_cfW_1 m t) k) ?_
  show own_go _ _ _ _ _ _ _ (s₁.setTop (mkF m 0 #[.val (.ref t), .val (.int (1 : Int32))] []))
  refine oS (fun _ k => XS.iloadN X0.here hx rfl (hb hby d9_0) rfl k) ?_
  refine oS (fun _ k => XS.aloadN X0.here hx rfl (hb hby d9_1) rfl rfl k) ?_
  show own_go _ _ _ _ _ _ _ (s₁.setTop (mkF m 2 #[.val (.ref t), .val (.int (1 : Int32))] [(.ref t), (.int (1 : Int32))]))
  refine oS (own_len X0 hx hZ e0 V1 (g := (mkF m 2 #[.val (.ref t), .val (.int (1 : Int32))] [(.ref t), (.int (1 : Int32))])) rfl rfl (hb hby d9_2)) ?_
  show own_go _ _ _ _ _ _ _ (s₁.setTop (mkF m 3 #[.val (.ref t), .val (.int (1 : Int32))] [(.int (2 : Int32)), (.int (1 : Int32))]))
  refine oS (fun _ k => XS.isub X0.here hx rfl (hb hby d9_3) rfl k) ?_
  show own_go _ _ _ _ _ _ _ (s₁.setTop (mkF m 4 #[.val (.ref t), .val (.int (1 : Int32))] [(.int ((1 : Int32) - (2 : Int32)))]))
  rw [(by decide : ((1 : Int32) - (2 : Int32)) = (-1 : Int32))]
  show own_go _ _ _ _ _ _ _ (s₁.setTop (mkF m 4 #[.val (.ref t), .val (.int (1 : Int32))] [(.int (-1 : Int32))]))
  refine oS (fun _ k => XS.bipush X0.here hx rfl (hb hby d9_4) k) ?_
  refine oS (fun _ k => XS.iushr X0.here hx rfl (hb hby d9_6) rfl k) ?_
  show own_go _ _ _ _ _ _ _ (s₁.setTop (mkF m 7 #[.val (.ref t), .val (.int (1 : Int32))] [(.int (((-1 : Int32).toUInt32 >>> ((31 : Int32) &&& 31).toUInt32).toInt32))]))
  rw [(by decide : (((-1 : Int32).toUInt32 >>> ((31 : Int32) &&& 31).toUInt32).toInt32) = (1 : Int32))]
  show own_go _ _ _ _ _ _ _ (s₁.setTop (mkF m 7 #[.val (.ref t), .val (.int (1 : Int32))] [(.int (1 : Int32))]))
  refine oS (fun _ k => XS.i2b X0.here hx rfl (hb hby d9_7) rfl k) ?_
  show own_go _ _ _ _ _ _ _ (s₁.setTop (mkF m 8 #[.val (.ref t), .val (.int (1 : Int32))] [(.int ((1 : Int32).toInt8.toInt32))]))
  rw [(by decide : ((1 : Int32).toInt8.toInt32) = (1 : Int32))]
  show own_go _ _ _ _ _ _ _ (s₁.setTop (mkF m 8 #[.val (.ref t), .val (.int (1 : Int32))] [(.int (1 : Int32))]))
  exact own_retN X0 hx hlk (t := .byte) hret (by simp) rfl (hb hby d9_8) (by decide) (by decide) (⟨rfl, N0, e0⟩)
theorem own_ef_rm_cfW_2 (m : MethodId) (t : Addr) : entryFrame m #[(.ref t), (.int (2 : Int32))] 2 = mkF m 0 #[.val (.ref t), .val (.int (2 : Int32))] [] := by first | (simp [entryFrame, mkF, argsToLocals, Value.category]; done) | rfl
set_option maxRecDepth 65536 in
set_option maxHeartbeats 40000000 in
theorem rm_cfW_2 (l : Launch) (Z : State) (a0 : Array Value) (hw : ∀ d ∈ tables_1, d.before a0 Z = true) (t : Addr) (k : ClassId) (vs : List Value) (h0 : Heap) (n0 : Nat) (O0 : Old Z n0 h0) (V1 : Arv Z h0 t k .byte (4 : Int32) vs (.int (0 : Int32))) :
    own_Met l Z (⟨"java/lang/StringUTF16", "coderFromArrayLen", "([BI)B"⟩ : MethodName) jdk_52_method_15_code 2 (some .byte) [] ({ frames := 0, cells := 0, slots := 0, locals := 0 } : Room) #[(.ref t), (.int (2 : Int32))] h0 (fun v h L => v = some (.int (1 : Int32)) ∧ Fr n0 L ∧ h = h0) := by
  refine own_body own_pn_9 ?_
  intro p e s m below meth c s₁ hx hby hml hown hnm hret hlk X0 hZ e0
  replace hown : s.vm.findClass "java/lang/StringUTF16" = some m.cls := hown
  have N0 := Fr.nil n0
  have K0 := Keep.refl h0 []
  refine oS (fun _ k => castTop (own_ef_rm_cfW_2 m t) k) ?_
  show own_go _ _ _ _ _ _ _ (s₁.setTop (mkF m 0 #[.val (.ref t), .val (.int (2 : Int32))] []))
  refine oS (fun _ k => XS.iloadN X0.here hx rfl (hb hby d9_0) rfl k) ?_
  refine oS (fun _ k => XS.aloadN X0.here hx rfl (hb hby d9_1) rfl rfl k) ?_
  show own_go _ _ _ _ _ _ _ (s₁.setTop (mkF m 2 #[.val (.ref t), .val (.int (2 : Int32))] [(.ref t), (.int (2 : Int32))]))
  refine oS (own_len X0 hx hZ e0 V1 (g := (mkF m 2 #[.val (.ref t), .val (.int (2 : Int32))] [(.ref t), (.int (2 : Int32))])) rfl rfl (hb hby d9_2)) ?_
  show own_go _ _ _ _ _ _ _ (s₁.setTop (mkF m 3 #[.val (.ref t), .val (.int (2 : Int32))] [(.int (4 : Int32)), (.int (2 : Int32))]))
  refine oS (fun _ k => XS.isub X0.here hx rfl (hb hby d9_3) rfl k) ?_
  show own_go _ _ _ _ _ _ _ (s₁.setTop (mkF m 4 #[.val (.ref t), .val (.int (2 : Int32))] [(.int ((2 : Int32) - (4 : Int32)))]))
  rw [(by decide : ((2 : Int32) - (4 : Int32)) = (-2 : Int32))]
  show own_go _ _ _ _ _ _ _ (s₁.setTop (mkF m 4 #[.val (.ref t), .val (.int (2 : Int32))] [(.int (-2 : Int32))]))
  refine oS (fun _ k => XS.bipush X0.here hx rfl (hb hby d9_4) k) ?_
  refine oS (fun _ k => XS.iushr X0.here hx rfl (hb hby d9_6) rfl k) ?_
  show own_go _ _ _ _ _ _ _ (s₁.setTop (mkF m 7 #[.val (.ref t), .val (.int (2 : Int32))] [(.int (((-2 : Int32).toUInt32 >>> ((31 : Int32) &&& 31).toUInt32).toInt32))]))
  rw [(by decide : (((-2 : Int32).toUInt32 >>> ((31 : Int32) &&& 31).toUInt32).toInt32) = (1 : Int32))]
  show own_go _ _ _ _ _ _ _ (s₁.setTop (mkF m 7 #[.val (.ref t), .val (.int (2 : Int32))] [(.int (1 : Int32))]))
  refine oS (fun _ k => XS.i2b X0.here hx rfl (hb hby d9_7) rfl k) ?_
  show own_go _ _ _ _ _ _ _ (s₁.setTop (mkF m 8 #[.val (.ref t), .val (.int (2 : Int32))] [(.int ((1 : Int32).toInt8.toInt32))]))
  rw [(by decide : ((1 : Int32).toInt8.toInt32) = (1 : Int32))]
  show own_go _ _ _ _ _ _ _ (s₁.setTop (mkF m 8 #[.val (.ref t), .val (.int (2 : Int32))] [(.int (1 : Int32))]))
  exact own_retN X0 hx hlk (t := .byte) hret (by simp) rfl (hb hby d9_8) (by decide) (by decide) (⟨rfl, N0, e0⟩)
theorem own_ef_rm_cfW_3 (m : MethodId) (t : Addr) : entryFrame m #[(.ref t), (.int (3 : Int32))] 2 = mkF m 0 #[.val (.ref t), .val (.int (3 : Int32))] [] := by first | (simp [entryFrame, mkF, argsToLocals, Value.category]; done) | rfl
set_option maxRecDepth 65536 in
set_option maxHeartbeats 40000000 in
theorem rm_cfW_3 (l : Launch) (Z : State) (a0 : Array Value) (hw : ∀ d ∈ tables_1, d.before a0 Z = true) (t : Addr) (k : ClassId) (vs : List Value) (h0 : Heap) (n0 : Nat) (O0 : Old Z n0 h0) (V1 : Arv Z h0 t k .byte (6 : Int32) vs (.int (0 : Int32))) :
    own_Met l Z (⟨"java/lang/StringUTF16", "coderFromArrayLen", "([BI)B"⟩ : MethodName) jdk_52_method_15_code 2 (some .byte) [] ({ frames := 0, cells := 0, slots := 0, locals := 0 } : Room) #[(.ref t), (.int (3 : Int32))] h0 (fun v h L => v = some (.int (1 : Int32)) ∧ Fr n0 L ∧ h = h0) := by
  refine own_body own_pn_9 ?_
  intro p e s m below meth c s₁ hx hby hml hown hnm hret hlk X0 hZ e0
  replace hown : s.vm.findClass "java/lang/StringUTF16" = some m.cls := hown
  have N0 := Fr.nil n0
  have K0 := Keep.refl h0 []
  refine oS (fun _ k => castTop (own_ef_rm_cfW_3 m t) k) ?_
  show own_go _ _ _ _ _ _ _ (s₁.setTop (mkF m 0 #[.val (.ref t), .val (.int (3 : Int32))] []))
  refine oS (fun _ k => XS.iloadN X0.here hx rfl (hb hby d9_0) rfl k) ?_
  refine oS (fun _ k => XS.aloadN X0.here hx rfl (hb hby d9_1) rfl rfl k) ?_
  show own_go _ _ _ _ _ _ _ (s₁.setTop (mkF m 2 #[.val (.ref t), .val (.int (3 : Int32))] [(.ref t), (.int (3 : Int32))]))
  refine oS (own_len X0 hx hZ e0 V1 (g := (mkF m 2 #[.val (.ref t), .val (.int (3 : Int32))] [(.ref t), (.int (3 : Int32))])) rfl rfl (hb hby d9_2)) ?_
  show own_go _ _ _ _ _ _ _ (s₁.setTop (mkF m 3 #[.val (.ref t), .val (.int (3 : Int32))] [(.int (6 : Int32)), (.int (3 : Int32))]))
  refine oS (fun _ k => XS.isub X0.here hx rfl (hb hby d9_3) rfl k) ?_
  show own_go _ _ _ _ _ _ _ (s₁.setTop (mkF m 4 #[.val (.ref t), .val (.int (3 : Int32))] [(.int ((3 : Int32) - (6 : Int32)))]))
  rw [(by decide : ((3 : Int32) - (6 : Int32)) = (-3 : Int32))]
  show own_go _ _ _ _ _ _ _ (s₁.setTop (mkF m 4 #[.val (.ref t), .val (.int (3 : Int32))] [(.int (-3 : Int32))]))
  refine oS (fun _ k => XS.bipush X0.here hx rfl (hb hby d9_4) k) ?_
  refine oS (fun _ k => XS.iushr X0.here hx rfl (hb hby d9_6) rfl k) ?_
  show own_go _ _ _ _ _ _ _ (s₁.setTop (mkF m 7 #[.val (.ref t), .val (.int (3 : Int32))] [(.int (((-3 : Int32).toUInt32 >>> ((31 : Int32) &&& 31).toUInt32).toInt32))]))
  rw [(by decide : (((-3 : Int32).toUInt32 >>> ((31 : Int32) &&& 31).toUInt32).toInt32) = (1 : Int32))]
  show own_go _ _ _ _ _ _ _ (s₁.setTop (mkF m 7 #[.val (.ref t), .val (.int (3 : Int32))] [(.int (1 : Int32))]))
  refine oS (fun _ k => XS.i2b X0.here hx rfl (hb hby d9_7) rfl k) ?_
  show own_go _ _ _ _ _ _ _ (s₁.setTop (mkF m 8 #[.val (.ref t), .val (.int (3 : Int32))] [(.int ((1 : Int32).toInt8.toInt32))]))
  rw [(by decide : ((1 : Int32).toInt8.toInt32) = (1 : Int32))]
  show own_go _ _ _ _ _ _ _ (s₁.setTop (mkF m 8 #[.val (.ref t), .val (.int (3 : Int32))] [(.int (1 : Int32))]))
  exact own_retN X0 hx hlk (t := .byte) hret (by simp) rfl (hb hby d9_8) (by decide) (by decide) (⟨rfl, N0, e0⟩)
theorem d3_0 : decode jdk_42_method_149_code 0 = .ok (.aload_n 0, 1) := by decide +kernel
theorem d3_1 : decode jdk_42_method_149_code 1 = .ok (.invokespecial 1, 3) := by decide +kernel
theorem d3_4 : decode jdk_42_method_149_code 4 = .ok (.iload_n 3, 1) := by decide +kernel
theorem d3_5 : decode jdk_42_method_149_code 5 = .ok (.ifCond .ne 22, 3) := by decide +kernel
theorem d3_27 : decode jdk_42_method_149_code 27 = .ok (.getstatic 38, 3) := by decide +kernel
theorem d3_30 : decode jdk_42_method_149_code 30 = .ok (.ifCond .eq 28, 3) := by decide +kernel
theorem d3_33 : decode jdk_42_method_149_code 33 = .ok (.aload_n 1, 1) := by decide +kernel
theorem d3_34 : decode jdk_42_method_149_code 34 = .ok (.iload_n 2, 1) := by decide +kernel
theorem d3_35 : decode jdk_42_method_149_code 35 = .ok (.iload_n 3, 1) := by decide +kernel
theorem d3_36 : decode jdk_42_method_149_code 36 = .ok (.invokestatic 177, 3) := by decide +kernel
theorem d3_39 : decode jdk_42_method_149_code 39 = .ok (.astore 5, 2) := by decide +kernel
theorem d3_41 : decode jdk_42_method_149_code 41 = .ok (.aload_n 0, 1) := by decide +kernel
theorem d3_42 : decode jdk_42_method_149_code 42 = .ok (.aload 5, 2) := by decide +kernel
theorem d3_44 : decode jdk_42_method_149_code 44 = .ok (.iload_n 3, 1) := by decide +kernel
theorem d3_45 : decode jdk_42_method_149_code 45 = .ok (.invokestatic 47, 3) := by decide +kernel
theorem d3_48 : decode jdk_42_method_149_code 48 = .ok (.putfield 15, 3) := by decide +kernel
theorem d3_51 : decode jdk_42_method_149_code 51 = .ok (.aload_n 0, 1) := by decide +kernel
theorem d3_52 : decode jdk_42_method_149_code 52 = .ok (.aload 5, 2) := by decide +kernel
theorem d3_54 : decode jdk_42_method_149_code 54 = .ok (.putfield 9, 3) := by decide +kernel
theorem d3_57 : decode jdk_42_method_149_code 57 = .ok (.return_, 1) := by decide +kernel
theorem own_pn_3 : plainFor (⟨"java/lang/String", "<init>", "([CIILjava/lang/Void;)V"⟩ : MethodName) = true := plainFor_of_name (show plainName "java/lang/String" = true by first | (simp [plainName, overriddenIn]; done) | decide +kernel)
theorem own_pd__28_5bBI_29B : parseMethodDescriptor "([BI)B" = some ⟨[(.array .byte), .int], some .byte⟩ := by decide +kernel
theorem own_ef_rm_s4_1 (m : MethodId) (a1 : Addr) (a2 : Addr) : entryFrame m #[(.ref a1), (.ref a2), (.int (0 : Int32)), (.int (1 : Int32)), .null] 6 = mkF m 0 #[.val (.ref a1), .val (.ref a2), .val (.int (0 : Int32)), .val (.int (1 : Int32)), .val .null, .unset] [] := by first | (simp [entryFrame, mkF, argsToLocals, Value.category]; done) | rfl
set_option maxRecDepth 65536 in
set_option maxHeartbeats 40000000 in
theorem rm_s4_1 (l : Launch) (Z : State) (a0 : Array Value) (hw : ∀ d ∈ tables_1, d.before a0 Z = true) (a1 a2 : Addr) (k2 : ClassId) (c0 : Int32) (zC : Int32) (vS : Value) (h0 : Heap) (n0 : Nat) (O0 : Old Z n0 h0) (hS : own_S Z zC vS) (ge_a1 : n0 ≤ a1) (E_a1 : Exa Z h0 a1 "java/lang/String") (F_a1_value : Fld Z h0 a1 "java/lang/String" "value" "[B" .null) (F_a1_coder : Fld Z h0 a1 "java/lang/String" "coder" "B" (.int (0 : Int32))) (V2 : Arv Z h0 a2 k2 .char (1 : Int32) [(.int c0)] (.int (0 : Int32))) (hc0 : own_ch c0) :
    own_Met l Z (⟨"java/lang/String", "<init>", "([CIILjava/lang/Void;)V"⟩ : MethodName) jdk_42_method_149_code 6 none [] ({ frames := 4, cells := 2, slots := 3, locals := 80 } : Room) #[(.ref a1), (.ref a2), (.int (0 : Int32)), (.int (1 : Int32)), .null] h0 (fun v h L => v = none ∧ Fr n0 L ∧ Keep h0 h [a1] ∧ ∃ t k, h0.size ≤ t ∧ Fld Z h a1 "java/lang/String" "value" "[B" (.ref t) ∧ ((Fld Z h a1 "java/lang/String" "coder" "B" (.int (0 : Int32)) ∧ Arv Z h t k .byte (1 : Int32) [(.int (c0.toInt8.toInt32))] (.int (0 : Int32)) ∧ ¬ (255 : Int32) < c0) ∨ (Fld Z h a1 "java/lang/String" "coder" "B" (.int (1 : Int32)) ∧ Arv Z h t k .byte (2 : Int32) [(.int (c0.toInt8.toInt32)), (.int ((c0 >>> ((8 : Int32) &&& 31)).toInt8.toInt32))] (.int (0 : Int32))))) := by
  refine own_body own_pn_3 ?_
  intro p e s m below meth c s₁ hx hby hml hown hnm hret hlk X0 hZ e0
  replace hown : s.vm.findClass "java/lang/String" = some m.cls := hown
  have N0 := Fr.nil n0
  have K0 := Keep.refl h0 [a1]
  refine oS (fun _ k => castTop (own_ef_rm_s4_1 m a1 a2) k) ?_
  show own_go _ _ _ _ _ _ _ (s₁.setTop (mkF m 0 #[.val (.ref a1), .val (.ref a2), .val (.int (0 : Int32)), .val (.int (1 : Int32)), .val .null, .unset] []))
  refine oS (fun _ k => XS.aloadN X0.here hx rfl (hb hby d3_0) rfl rfl k) ?_
  show own_go _ _ _ _ _ _ _ (s₁.setTop (mkF m 1 #[.val (.ref a1), .val (.ref a2), .val (.int (0 : Int32)), .val (.int (1 : Int32)), .val .null, .unset] [(.ref a1)]))
  obtain ⟨T314, X314, e314, st314⟩ := initO X0 hx hZ hown (ow hw 15 rfl) (ow hw 16 rfl) (ow hw 17 rfl) e0 (g := (mkF m 1 #[.val (.ref a1), .val (.ref a2), .val (.int (0 : Int32)), .val (.int (1 : Int32)), .val .null, .unset] [(.ref a1)])) rfl (by rw [hml]; rfl) rfl (hb hby d3_1) (by decide) (W := 0) (by show 2 * 0 + _ ≤ _; exact Nat.le_of_eq rfl) (by decide)
  refine oS st314 ?_
  show own_go _ _ _ _ _ _ _ (T314.setTop (mkF m 4 #[.val (.ref a1), .val (.ref a2), .val (.int (0 : Int32)), .val (.int (1 : Int32)), .val .null, .unset] []))
  refine oS (fun _ k => XS.iloadN X314.here hx rfl (hb hby d3_4) rfl k) ?_
  show own_go _ _ _ _ _ _ _ (T314.setTop (mkF m 5 #[.val (.ref a1), .val (.ref a2), .val (.int (0 : Int32)), .val (.int (1 : Int32)), .val .null, .unset] [(.int (1 : Int32))]))
  refine oS (fun _ k => XS.ifYes X314.here hx rfl (pc0 := 5) (pc' := 27) rfl (hb hby d3_5) rfl (by decide) (by decide) (by decide) k) ?_
  show own_go _ _ _ _ _ _ _ (T314.setTop (mkF m 27 #[.val (.ref a1), .val (.ref a2), .val (.int (0 : Int32)), .val (.int (1 : Int32)), .val .null, .unset] []))
  obtain ⟨T315, X315, e315, st315⟩ := getS2 X314 hx hZ hown (host := "") (Or.inl (ow hw 35 rfl)) Via.refl e314 (hS.1.ext O0.2) (g := (mkF m 27 #[.val (.ref a1), .val (.ref a2), .val (.int (0 : Int32)), .val (.int (1 : Int32)), .val .null, .unset] [])) rfl (hb hby d3_27)
  refine oS st315 ?_
  show own_go _ _ _ _ _ _ _ (T315.setTop (mkF m 30 #[.val (.ref a1), .val (.ref a2), .val (.int (0 : Int32)), .val (.int (1 : Int32)), .val .null, .unset] [(.int zC)]))
  refine oS (fun _ k => XS.ifNo X315.here hx rfl (hb hby d3_30) rfl (XT.i0_eq_f hS.2.1) k) ?_
  show own_go _ _ _ _ _ _ _ (T315.setTop (mkF m 33 #[.val (.ref a1), .val (.ref a2), .val (.int (0 : Int32)), .val (.int (1 : Int32)), .val .null, .unset] []))
  by_cases hc316 : (255 : Int32) < c0
  · skip
    refine oS (fun _ k => XS.aloadN X315.here hx rfl (hb hby d3_33) rfl rfl k) ?_
    refine oS (fun _ k => XS.iloadN X315.here hx rfl (hb hby d3_34) rfl k) ?_
    refine oS (fun _ k => XS.iloadN X315.here hx rfl (hb hby d3_35) rfl k) ?_
    show own_go _ _ _ _ _ _ _ (T315.setTop (mkF m 36 #[.val (.ref a1), .val (.ref a2), .val (.int (0 : Int32)), .val (.int (1 : Int32)), .val .null, .unset] [(.int (1 : Int32)), (.int (0 : Int32)), (.ref a2)]))
    obtain ⟨v317, T317, L317, X317, hQ317, st317⟩ := own_callS X315 hx hZ (argsL := [(.ref a2), (.int (0 : Int32)), (.int (1 : Int32))]) (rest := []) (rm_co_1_0 l Z a0 hw a2 k2 c0 zC vS h0 n0 O0 hS V2 hc0 hc316) hown (ow hw 36 rfl) (ow hw 37 rfl) (ow hw 38 rfl) (ow hw 39 rfl) (by decide) e315 (g := (mkF m 36 #[.val (.ref a1), .val (.ref a2), .val (.int (0 : Int32)), .val (.int (1 : Int32)), .val .null, .unset] [(.int (1 : Int32)), (.int (0 : Int32)), (.ref a2)])) rfl (by rw [hml]; rfl) (lenOf own_pd__28_5bCII_29_5bB rfl) rfl (W := 0) (by show 2 * 0 + _ ≤ _; exact Nat.le_of_eq rfl) (hb hby d3_36) (by decide) (by decide) (by decide) (by decide)
    obtain ⟨r317, kr317, rfl, Nq317, Kq317, sz317, Vq317⟩ := hQ317
    have N317 := Fr.app N0 Nq317
    have ne_a1_r317 : a1 ≠ r317 := (Nat.ne_of_lt (Nat.lt_of_lt_of_le E_a1.lt sz317))
    have ne_a2_r317 : a2 ≠ r317 := (Nat.ne_of_lt (Nat.lt_of_lt_of_le V2.lt sz317))
    have O317 := O0.keep Kq317 all0
    have K317 := K0.trans Kq317 all0
    refine oS st317 ?_
    show own_go _ _ _ _ _ _ _ (T317.setTop (mkF m 39 #[.val (.ref a1), .val (.ref a2), .val (.int (0 : Int32)), .val (.int (1 : Int32)), .val .null, .unset] [(.ref r317)]))
    refine oS (fun _ k => XS.astore X317.here hx rfl (hb hby d3_39) rfl rfl (l' := #[.val (.ref a1), .val (.ref a2), .val (.int (0 : Int32)), .val (.int (1 : Int32)), .val .null, .val (.ref r317)]) rfl k) ?_
    refine oS (fun _ k => XS.aloadN X317.here hx rfl (hb hby d3_41) rfl rfl k) ?_
    refine oS (fun _ k => XS.aload X317.here hx rfl (hb hby d3_42) rfl rfl k) ?_
    refine oS (fun _ k => XS.iloadN X317.here hx rfl (hb hby d3_44) rfl k) ?_
    show own_go _ _ _ _ _ _ _ (T317.setTop (mkF m 45 #[.val (.ref a1), .val (.ref a2), .val (.int (0 : Int32)), .val (.int (1 : Int32)), .val .null, .val (.ref r317)] [(.int (1 : Int32)), (.ref r317), (.ref a1)]))
    obtain ⟨v318, T318, L318, X318, hQ318, st318⟩ := own_callS X317 hx hZ (argsL := [(.ref r317), (.int (1 : Int32))]) (rest := [(.ref a1)]) (rm_cfW_1 l Z a0 hw r317 kr317 _ T317.heap n0 O317 Vq317) hown (ow hw 43 rfl) (ow hw 44 rfl) (ow hw 38 rfl) (ow hw 45 rfl) (by decide) rfl (g := (mkF m 45 #[.val (.ref a1), .val (.ref a2), .val (.int (0 : Int32)), .val (.int (1 : Int32)), .val .null, .val (.ref r317)] [(.int (1 : Int32)), (.ref r317), (.ref a1)])) rfl (by rw [hml]; rfl) (lenOf own_pd__28_5bBI_29B rfl) rfl (W := 1) (by show 2 * 0 + _ ≤ _; exact Nat.le_of_eq rfl) (hb hby d3_45) (by decide) (by decide) (by decide) (by decide)
    obtain ⟨rfl, Nq318, eq318⟩ := hQ318
    have N318 := Fr.app N317 Nq318
    refine oS st318 ?_
    show own_go _ _ _ _ _ _ _ (T318.setTop (mkF m 48 #[.val (.ref a1), .val (.ref a2), .val (.int (0 : Int32)), .val (.int (1 : Int32)), .val .null, .val (.ref r317)] [(.int (1 : Int32)), (.ref a1)]))
    have f320 := (F_a1_coder.keep Kq317 nin0)
    have f321 := (E_a1.keep Kq317)
    obtain ⟨T319, h319, X319, e319, W319, st319⟩ := putF X318 hx hZ hown (host := "") (Or.inl (ow hw 25 rfl)) Via.refl eq318 f320 f321 (Or.inr ⟨(ow hw 21 rfl), rfl, hnm⟩) (ow hw 5 rfl) (ty := .byte) (by decide) rfl rfl (g := (mkF m 48 #[.val (.ref a1), .val (.ref a2), .val (.int (0 : Int32)), .val (.int (1 : Int32)), .val .null, .val (.ref r317)] [(.int (1 : Int32)), (.ref a1)])) rfl rfl (hb hby d3_48)
    have N319 := Fr.snoc X319 N318 ge_a1
    have O322 := O317.wr W319 ge_a1
    have K322 := K317.wr W319 (Or.inl (List.mem_of_getElem? (i := 0) rfl))
    have F319 := f320.same W319
    refine oS st319 ?_
    show own_go _ _ _ _ _ _ _ (T319.setTop (mkF m 51 #[.val (.ref a1), .val (.ref a2), .val (.int (0 : Int32)), .val (.int (1 : Int32)), .val .null, .val (.ref r317)] []))
    refine oS (fun _ k => XS.aloadN X319.here hx rfl (hb hby d3_51) rfl rfl k) ?_
    refine oS (fun _ k => XS.aload X319.here hx rfl (hb hby d3_52) rfl rfl k) ?_
    show own_go _ _ _ _ _ _ _ (T319.setTop (mkF m 54 #[.val (.ref a1), .val (.ref a2), .val (.int (0 : Int32)), .val (.int (1 : Int32)), .val .null, .val (.ref r317)] [(.ref r317), (.ref a1)]))
    have f324 := ((F_a1_value.keep Kq317 nin0).other W319 (Or.inr (slot_ne (Or.inr (ow hw 20 rfl)) (Or.inr (ow hw 21 rfl)) (by decide) (t := (.array .byte)) (t' := .byte) (by decide) (by decide))))
    have f325 := (f321.wr W319)
    obtain ⟨T323, h323, X323, e323, W323, st323⟩ := putF X319 hx hZ hown (host := "") (Or.inl (ow hw 24 rfl)) Via.refl e319 f324 f325 (Or.inr ⟨(ow hw 20 rfl), rfl, hnm⟩) (ow hw 5 rfl) (ty := (.array .byte)) (by decide) rfl rfl (g := (mkF m 54 #[.val (.ref a1), .val (.ref a2), .val (.int (0 : Int32)), .val (.int (1 : Int32)), .val .null, .val (.ref r317)] [(.ref r317), (.ref a1)])) rfl rfl (hb hby d3_54)
    have N323 := Fr.snoc X323 N319 ge_a1
    have O326 := O322.wr W323 ge_a1
    have K326 := K322.wr W323 (Or.inl (List.mem_of_getElem? (i := 0) rfl))
    have F323 := f324.same W323
    refine oS st323 ?_
    show own_go _ _ _ _ _ _ _ (T323.setTop (mkF m 57 #[.val (.ref a1), .val (.ref a2), .val (.int (0 : Int32)), .val (.int (1 : Int32)), .val .null, .val (.ref r317)] []))
    have f327 := (F319.other W323 (Or.inr (slot_ne (Or.inr (ow hw 21 rfl)) (Or.inr (ow hw 20 rfl)) (by decide) (t := .byte) (t' := (.array .byte)) (by decide) (by decide))))
    have f328 := ((Vq317.other W319 (Ne.symm ne_a1_r317)).other W323 (Ne.symm ne_a1_r317))
    exact own_ret0 X323 hx hlk hret (hb hby d3_57) (by decide) (by decide) (by rw [e323]; exact ⟨rfl, N323, K326, _, _, (Nat.le_trans K0.1 sz317), F323, Or.inr ⟨f327, f328⟩⟩)
  · skip
    refine oS (fun _ k => XS.aloadN X315.here hx rfl (hb hby d3_33) rfl rfl k) ?_
    refine oS (fun _ k => XS.iloadN X315.here hx rfl (hb hby d3_34) rfl k) ?_
    refine oS (fun _ k => XS.iloadN X315.here hx rfl (hb hby d3_35) rfl k) ?_
    show own_go _ _ _ _ _ _ _ (T315.setTop (mkF m 36 #[.val (.ref a1), .val (.ref a2), .val (.int (0 : Int32)), .val (.int (1 : Int32)), .val .null, .unset] [(.int (1 : Int32)), (.int (0 : Int32)), (.ref a2)]))
    obtain ⟨v329, T329, L329, X329, hQ329, st329⟩ := own_callS X315 hx hZ (argsL := [(.ref a2), (.int (0 : Int32)), (.int (1 : Int32))]) (rest := []) (rm_co_1_1 l Z a0 hw a2 k2 c0 zC vS h0 n0 O0 hS V2 hc0 hc316) hown (ow hw 36 rfl) (ow hw 37 rfl) (ow hw 38 rfl) (ow hw 39 rfl) (by decide) e315 (g := (mkF m 36 #[.val (.ref a1), .val (.ref a2), .val (.int (0 : Int32)), .val (.int (1 : Int32)), .val .null, .unset] [(.int (1 : Int32)), (.int (0 : Int32)), (.ref a2)])) rfl (by rw [hml]; rfl) (lenOf own_pd__28_5bCII_29_5bB rfl) rfl (W := 0) (by show 2 * 0 + _ ≤ _; exact Nat.le_of_eq rfl) (hb hby d3_36) (by decide) (by decide) (by decide) (by decide)
    obtain ⟨r329, kr329, rfl, Nq329, Kq329, sz329, Vq329⟩ := hQ329
    have N329 := Fr.app N0 Nq329
    have ne_a1_r329 : a1 ≠ r329 := (Nat.ne_of_lt (Nat.lt_of_lt_of_le E_a1.lt sz329))
    have ne_a2_r329 : a2 ≠ r329 := (Nat.ne_of_lt (Nat.lt_of_lt_of_le V2.lt sz329))
    have O329 := O0.keep Kq329 all0
    have K329 := K0.trans Kq329 all0
    refine oS st329 ?_
    show own_go _ _ _ _ _ _ _ (T329.setTop (mkF m 39 #[.val (.ref a1), .val (.ref a2), .val (.int (0 : Int32)), .val (.int (1 : Int32)), .val .null, .unset] [(.ref r329)]))
    refine oS (fun _ k => XS.astore X329.here hx rfl (hb hby d3_39) rfl rfl (l' := #[.val (.ref a1), .val (.ref a2), .val (.int (0 : Int32)), .val (.int (1 : Int32)), .val .null, .val (.ref r329)]) rfl k) ?_
    refine oS (fun _ k => XS.aloadN X329.here hx rfl (hb hby d3_41) rfl rfl k) ?_
    refine oS (fun _ k => XS.aload X329.here hx rfl (hb hby d3_42) rfl rfl k) ?_
    refine oS (fun _ k => XS.iloadN X329.here hx rfl (hb hby d3_44) rfl k) ?_
    show own_go _ _ _ _ _ _ _ (T329.setTop (mkF m 45 #[.val (.ref a1), .val (.ref a2), .val (.int (0 : Int32)), .val (.int (1 : Int32)), .val .null, .val (.ref r329)] [(.int (1 : Int32)), (.ref r329), (.ref a1)]))
    obtain ⟨v330, T330, L330, X330, hQ330, st330⟩ := own_callS X329 hx hZ (argsL := [(.ref r329), (.int (1 : Int32))]) (rest := [(.ref a1)]) (rm_cfL_1 l Z a0 hw r329 kr329 _ T329.heap n0 O329 Vq329) hown (ow hw 43 rfl) (ow hw 44 rfl) (ow hw 38 rfl) (ow hw 45 rfl) (by decide) rfl (g := (mkF m 45 #[.val (.ref a1), .val (.ref a2), .val (.int (0 : Int32)), .val (.int (1 : Int32)), .val .null, .val (.ref r329)] [(.int (1 : Int32)), (.ref r329), (.ref a1)])) rfl (by rw [hml]; rfl) (lenOf own_pd__28_5bBI_29B rfl) rfl (W := 1) (by show 2 * 0 + _ ≤ _; exact Nat.le_of_eq rfl) (hb hby d3_45) (by decide) (by decide) (by decide) (by decide)
    obtain ⟨rfl, Nq330, eq330⟩ := hQ330
    have N330 := Fr.app N329 Nq330
    refine oS st330 ?_
    show own_go _ _ _ _ _ _ _ (T330.setTop (mkF m 48 #[.val (.ref a1), .val (.ref a2), .val (.int (0 : Int32)), .val (.int (1 : Int32)), .val .null, .val (.ref r329)] [(.int (0 : Int32)), (.ref a1)]))
    have f332 := (F_a1_coder.keep Kq329 nin0)
    have f333 := (E_a1.keep Kq329)
    obtain ⟨T331, h331, X331, e331, W331, st331⟩ := putF X330 hx hZ hown (host := "") (Or.inl (ow hw 25 rfl)) Via.refl eq330 f332 f333 (Or.inr ⟨(ow hw 21 rfl), rfl, hnm⟩) (ow hw 5 rfl) (ty := .byte) (by decide) rfl rfl (g := (mkF m 48 #[.val (.ref a1), .val (.ref a2), .val (.int (0 : Int32)), .val (.int (1 : Int32)), .val .null, .val (.ref r329)] [(.int (0 : Int32)), (.ref a1)])) rfl rfl (hb hby d3_48)
    have N331 := Fr.snoc X331 N330 ge_a1
    have O334 := O329.wr W331 ge_a1
    have K334 := K329.wr W331 (Or.inl (List.mem_of_getElem? (i := 0) rfl))
    have F331 := f332.same W331
    refine oS st331 ?_
    show own_go _ _ _ _ _ _ _ (T331.setTop (mkF m 51 #[.val (.ref a1), .val (.ref a2), .val (.int (0 : Int32)), .val (.int (1 : Int32)), .val .null, .val (.ref r329)] []))
    refine oS (fun _ k => XS.aloadN X331.here hx rfl (hb hby d3_51) rfl rfl k) ?_
    refine oS (fun _ k => XS.aload X331.here hx rfl (hb hby d3_52) rfl rfl k) ?_
    show own_go _ _ _ _ _ _ _ (T331.setTop (mkF m 54 #[.val (.ref a1), .val (.ref a2), .val (.int (0 : Int32)), .val (.int (1 : Int32)), .val .null, .val (.ref r329)] [(.ref r329), (.ref a1)]))
    have f336 := ((F_a1_value.keep Kq329 nin0).other W331 (Or.inr (slot_ne (Or.inr (ow hw 20 rfl)) (Or.inr (ow hw 21 rfl)) (by decide) (t := (.array .byte)) (t' := .byte) (by decide) (by decide))))
    have f337 := (f333.wr W331)
    obtain ⟨T335, h335, X335, e335, W335, st335⟩ := putF X331 hx hZ hown (host := "") (Or.inl (ow hw 24 rfl)) Via.refl e331 f336 f337 (Or.inr ⟨(ow hw 20 rfl), rfl, hnm⟩) (ow hw 5 rfl) (ty := (.array .byte)) (by decide) rfl rfl (g := (mkF m 54 #[.val (.ref a1), .val (.ref a2), .val (.int (0 : Int32)), .val (.int (1 : Int32)), .val .null, .val (.ref r329)] [(.ref r329), (.ref a1)])) rfl rfl (hb hby d3_54)
    have N335 := Fr.snoc X335 N331 ge_a1
    have O338 := O334.wr W335 ge_a1
    have K338 := K334.wr W335 (Or.inl (List.mem_of_getElem? (i := 0) rfl))
    have F335 := f336.same W335
    refine oS st335 ?_
    show own_go _ _ _ _ _ _ _ (T335.setTop (mkF m 57 #[.val (.ref a1), .val (.ref a2), .val (.int (0 : Int32)), .val (.int (1 : Int32)), .val .null, .val (.ref r329)] []))
    have f339 := (F331.other W335 (Or.inr (slot_ne (Or.inr (ow hw 21 rfl)) (Or.inr (ow hw 20 rfl)) (by decide) (t := .byte) (t' := (.array .byte)) (by decide) (by decide))))
    have f340 := ((Vq329.other W331 (Ne.symm ne_a1_r329)).other W335 (Ne.symm ne_a1_r329))
    exact own_ret0 X335 hx hlk hret (hb hby d3_57) (by decide) (by decide) (by rw [e335]; exact ⟨rfl, N335, K338, _, _, (Nat.le_trans K0.1 sz329), F335, Or.inl ⟨f339, f340, hc316⟩⟩)
theorem d2_0 : decode jdk_42_method_3_code 0 = .ok (.aload_n 0, 1) := by decide +kernel
theorem d2_1 : decode jdk_42_method_3_code 1 = .ok (.aload_n 1, 1) := by decide +kernel
theorem d2_2 : decode jdk_42_method_3_code 2 = .ok (.iconst 0, 1) := by decide +kernel
theorem d2_3 : decode jdk_42_method_3_code 3 = .ok (.aload_n 1, 1) := by decide +kernel
theorem d2_4 : decode jdk_42_method_3_code 4 = .ok (.arraylength, 1) := by decide +kernel
theorem d2_5 : decode jdk_42_method_3_code 5 = .ok (.aconst_null, 1) := by decide +kernel
theorem d2_6 : decode jdk_42_method_3_code 6 = .ok (.invokespecial 27, 3) := by decide +kernel
theorem d2_9 : decode jdk_42_method_3_code 9 = .ok (.return_, 1) := by decide +kernel
theorem own_pn_2 : plainFor (⟨"java/lang/String", "<init>", "([C)V"⟩ : MethodName) = true := plainFor_of_name (show plainName "java/lang/String" = true by first | (simp [plainName, overriddenIn]; done) | decide +kernel)
theorem own_pd__28_5bCIILjava_2flang_2fVoid_3b_29V : parseMethodDescriptor "([CIILjava/lang/Void;)V" = some ⟨[(.array .char), .int, .int, (.object "java/lang/Void")], none⟩ := by decide +kernel
theorem own_ef_rm_s1_1 (m : MethodId) (a1 : Addr) (a2 : Addr) : entryFrame m #[(.ref a1), (.ref a2)] 2 = mkF m 0 #[.val (.ref a1), .val (.ref a2)] [] := by first | (simp [entryFrame, mkF, argsToLocals, Value.category]; done) | rfl
set_option maxRecDepth 65536 in
set_option maxHeartbeats 40000000 in
theorem rm_s1_1 (l : Launch) (Z : State) (a0 : Array Value) (hw : ∀ d ∈ tables_1, d.before a0 Z = true) (a1 a2 : Addr) (k2 : ClassId) (c0 : Int32) (zC : Int32) (vS : Value) (h0 : Heap) (n0 : Nat) (O0 : Old Z n0 h0) (hS : own_S Z zC vS) (ge_a1 : n0 ≤ a1) (E_a1 : Exa Z h0 a1 "java/lang/String") (F_a1_value : Fld Z h0 a1 "java/lang/String" "value" "[B" .null) (F_a1_coder : Fld Z h0 a1 "java/lang/String" "coder" "B" (.int (0 : Int32))) (V2 : Arv Z h0 a2 k2 .char (1 : Int32) [(.int c0)] (.int (0 : Int32))) (hc0 : own_ch c0) :
    own_Met l Z (⟨"java/lang/String", "<init>", "([C)V"⟩ : MethodName) jdk_42_method_3_code 2 none [] ({ frames := 5, cells := 2, slots := 3, locals := 100 } : Room) #[(.ref a1), (.ref a2)] h0 (fun v h L => v = none ∧ Fr n0 L ∧ Keep h0 h [a1] ∧ ∃ t k, h0.size ≤ t ∧ Fld Z h a1 "java/lang/String" "value" "[B" (.ref t) ∧ ((Fld Z h a1 "java/lang/String" "coder" "B" (.int (0 : Int32)) ∧ Arv Z h t k .byte (1 : Int32) [(.int (c0.toInt8.toInt32))] (.int (0 : Int32)) ∧ ¬ (255 : Int32) < c0) ∨ (Fld Z h a1 "java/lang/String" "coder" "B" (.int (1 : Int32)) ∧ Arv Z h t k .byte (2 : Int32) [(.int (c0.toInt8.toInt32)), (.int ((c0 >>> ((8 : Int32) &&& 31)).toInt8.toInt32))] (.int (0 : Int32))))) := by
  refine own_body own_pn_2 ?_
  intro p e s m below meth c s₁ hx hby hml hown hnm hret hlk X0 hZ e0
  replace hown : s.vm.findClass "java/lang/String" = some m.cls := hown
  have N0 := Fr.nil n0
  have K0 := Keep.refl h0 [a1]
  refine oS (fun _ k => castTop (own_ef_rm_s1_1 m a1 a2) k) ?_
  show own_go _ _ _ _ _ _ _ (s₁.setTop (mkF m 0 #[.val (.ref a1), .val (.ref a2)] []))
  refine oS (fun _ k => XS.aloadN X0.here hx rfl (hb hby d2_0) rfl rfl k) ?_
  refine oS (fun _ k => XS.aloadN X0.here hx rfl (hb hby d2_1) rfl rfl k) ?_
  refine oS (fun _ k => XS.iconst X0.here hx rfl (hb hby d2_2) k) ?_
  refine oS (fun _ k => XS.aloadN X0.here hx rfl (hb hby d2_3) rfl rfl k) ?_
  show own_go _ _ _ _ _ _ _ (s₁.setTop (mkF m 4 #[.val (.ref a1), .val (.ref a2)] [(.ref a2), (.int (0 : Int32)), (.ref a2), (.ref a1)]))
  refine oS (own_len X0 hx hZ e0 V2 (g := (mkF m 4 #[.val (.ref a1), .val (.ref a2)] [(.ref a2), (.int (0 : Int32)), (.ref a2), (.ref a1)])) rfl rfl (hb hby d2_4)) ?_
  show own_go _ _ _ _ _ _ _ (s₁.setTop (mkF m 5 #[.val (.ref a1), .val (.ref a2)] [(.int (1 : Int32)), (.int (0 : Int32)), (.ref a2), (.ref a1)]))
  refine oS (fun _ k => XS.aconstNull X0.here hx rfl (hb hby d2_5) k) ?_
  show own_go _ _ _ _ _ _ _ (s₁.setTop (mkF m 6 #[.val (.ref a1), .val (.ref a2)] [.null, (.int (1 : Int32)), (.int (0 : Int32)), (.ref a2), (.ref a1)]))
  obtain ⟨v341, T341, L341, X341, hQ341, st341⟩ := own_callN X0 hx hZ (argsL := [(.ref a2), (.int (0 : Int32)), (.int (1 : Int32)), .null]) (rest := []) (rm_s4_1 l Z a0 hw a1 a2 k2 c0 zC vS h0 n0 O0 hS ge_a1 E_a1 F_a1_value F_a1_coder V2 hc0) rfl hown (ow hw 11 rfl) (ow hw 12 rfl) (ow hw 6 rfl) (ow hw 14 rfl) (by decide) e0 (g := (mkF m 6 #[.val (.ref a1), .val (.ref a2)] [.null, (.int (1 : Int32)), (.int (0 : Int32)), (.ref a2), (.ref a1)])) rfl (by rw [hml]; rfl) (lenOf own_pd__28_5bCIILjava_2flang_2fVoid_3b_29V rfl) rfl (W := 0) (by show 2 * 0 + _ ≤ _; exact Nat.le_of_eq rfl) (hb hby d2_6) (by decide) (by decide) (by decide) (by decide)
  obtain ⟨rfl, Nq341, Kq341, t341, kt341, sz341, U341, D341⟩ := hQ341
  have N341 := Fr.app N0 Nq341
  have O341 := O0.keep Kq341 (allS ge_a1 all0)
  have K341 := K0.trans Kq341 (allS (Or.inl (List.mem_of_getElem? (i := 0) rfl)) all0)
  refine oS st341 ?_
  show own_go _ _ _ _ _ _ _ (T341.setTop (mkF m 9 #[.val (.ref a1), .val (.ref a2)] []))
  exact own_ret0 X341 hx hlk hret (hb hby d2_9) (by decide) (by decide) ⟨rfl, N341, K341, t341, kt341, sz341, U341, D341⟩
theorem own_ef_rm_s4_2 (m : MethodId) (a1 : Addr) (a2 : Addr) : entryFrame m #[(.ref a1), (.ref a2), (.int (0 : Int32)), (.int (2 : Int32)), .null] 6 = mkF m 0 #[.val (.ref a1), .val (.ref a2), .val (.int (0 : Int32)), .val (.int (2 : Int32)), .val .null, .unset] [] := by first | (simp [entryFrame, mkF, argsToLocals, Value.category]; done) | rfl
set_option maxRecDepth 65536 in
set_option maxHeartbeats 40000000 in
theorem rm_s4_2 (l : Launch) (Z : State) (a0 : Array Value) (hw : ∀ d ∈ tables_1, d.before a0 Z = true) (a1 a2 : Addr) (k2 : ClassId) (c0 c1 : Int32) (zC : Int32) (vS : Value) (h0 : Heap) (n0 : Nat) (O0 : Old Z n0 h0) (hS : own_S Z zC vS) (ge_a1 : n0 ≤ a1) (E_a1 : Exa Z h0 a1 "java/lang/String") (F_a1_value : Fld Z h0 a1 "java/lang/String" "value" "[B" .null) (F_a1_coder : Fld Z h0 a1 "java/lang/String" "coder" "B" (.int (0 : Int32))) (V2 : Arv Z h0 a2 k2 .char (2 : Int32) [(.int c0), (.int c1)] (.int (0 : Int32))) (hc0 : own_ch c0) (hc1 : own_ch c1) :
    own_Met l Z (⟨"java/lang/String", "<init>", "([CIILjava/lang/Void;)V"⟩ : MethodName) jdk_42_method_149_code 6 none [] ({ frames := 4, cells := 2, slots := 6, locals := 80 } : Room) #[(.ref a1), (.ref a2), (.int (0 : Int32)), (.int (2 : Int32)), .null] h0 (fun v h L => v = none ∧ Fr n0 L ∧ Keep h0 h [a1] ∧ ∃ t k, h0.size ≤ t ∧ Fld Z h a1 "java/lang/String" "value" "[B" (.ref t) ∧ ((Fld Z h a1 "java/lang/String" "coder" "B" (.int (0 : Int32)) ∧ Arv Z h t k .byte (2 : Int32) [(.int (c0.toInt8.toInt32)), (.int (c1.toInt8.toInt32))] (.int (0 : Int32)) ∧ ¬ (255 : Int32) < c0 ∧ ¬ (255 : Int32) < c1) ∨ (Fld Z h a1 "java/lang/String" "coder" "B" (.int (1 : Int32)) ∧ Arv Z h t k .byte (4 : Int32) [(.int (c0.toInt8.toInt32)), (.int ((c0 >>> ((8 : Int32) &&& 31)).toInt8.toInt32)), (.int (c1.toInt8.toInt32)), (.int ((c1 >>> ((8 : Int32) &&& 31)).toInt8.toInt32))] (.int (0 : Int32))))) := by
  refine own_body own_pn_3 ?_
  intro p e s m below meth c s₁ hx hby hml hown hnm hret hlk X0 hZ e0
  replace hown : s.vm.findClass "java/lang/String" = some m.cls := hown
  have N0 := Fr.nil n0
  have K0 := Keep.refl h0 [a1]
  refine oS (fun _ k => castTop (own_ef_rm_s4_2 m a1 a2) k) ?_
  show own_go _ _ _ _ _ _ _ (s₁.setTop (mkF m 0 #[.val (.ref a1), .val (.ref a2), .val (.int (0 : Int32)), .val (.int (2 : Int32)), .val .null, .unset] []))
  refine oS (fun _ k => XS.aloadN X0.here hx rfl (hb hby d3_0) rfl rfl k) ?_
  show own_go _ _ _ _ _ _ _ (s₁.setTop (mkF m 1 #[.val (.ref a1), .val (.ref a2), .val (.int (0 : Int32)), .val (.int (2 : Int32)), .val .null, .unset] [(.ref a1)]))
  obtain ⟨T343, X343, e343, st343⟩ := initO X0 hx hZ hown (ow hw 15 rfl) (ow hw 16 rfl) (ow hw 17 rfl) e0 (g := (mkF m 1 #[.val (.ref a1), .val (.ref a2), .val (.int (0 : Int32)), .val (.int (2 : Int32)), .val .null, .unset] [(.ref a1)])) rfl (by rw [hml]; rfl) rfl (hb hby d3_1) (by decide) (W := 0) (by show 2 * 0 + _ ≤ _; exact Nat.le_of_eq rfl) (by decide)
  refine oS st343 ?_
  show own_go _ _ _ _ _ _ _ (T343.setTop (mkF m 4 #[.val (.ref a1), .val (.ref a2), .val (.int (0 : Int32)), .val (.int (2 : Int32)), .val .null, .unset] []))
  refine oS (fun _ k => XS.iloadN X343.here hx rfl (hb hby d3_4) rfl k) ?_
  show own_go _ _ _ _ _ _ _ (T343.setTop (mkF m 5 #[.val (.ref a1), .val (.ref a2), .val (.int (0 : Int32)), .val (.int (2 : Int32)), .val .null, .unset] [(.int (2 : Int32))]))
  refine oS (fun _ k => XS.ifYes X343.here hx rfl (pc0 := 5) (pc' := 27) rfl (hb hby d3_5) rfl (by decide) (by decide) (by decide) k) ?_
  show own_go _ _ _ _ _ _ _ (T343.setTop (mkF m 27 #[.val (.ref a1), .val (.ref a2), .val (.int (0 : Int32)), .val (.int (2 : Int32)), .val .null, .unset] []))
  obtain ⟨T344, X344, e344, st344⟩ := getS2 X343 hx hZ hown (host := "") (Or.inl (ow hw 35 rfl)) Via.refl e343 (hS.1.ext O0.2) (g := (mkF m 27 #[.val (.ref a1), .val (.ref a2), .val (.int (0 : Int32)), .val (.int (2 : Int32)), .val .null, .unset] [])) rfl (hb hby d3_27)
  refine oS st344 ?_
  show own_go _ _ _ _ _ _ _ (T344.setTop (mkF m 30 #[.val (.ref a1), .val (.ref a2), .val (.int (0 : Int32)), .val (.int (2 : Int32)), .val .null, .unset] [(.int zC)]))
  refine oS (fun _ k => XS.ifNo X344.here hx rfl (hb hby d3_30) rfl (XT.i0_eq_f hS.2.1) k) ?_
  show own_go _ _ _ _ _ _ _ (T344.setTop (mkF m 33 #[.val (.ref a1), .val (.ref a2), .val (.int (0 : Int32)), .val (.int (2 : Int32)), .val .null, .unset] []))
  by_cases hc345 : (255 : Int32) < c0
  · skip
    refine oS (fun _ k => XS.aloadN X344.here hx rfl (hb hby d3_33) rfl rfl k) ?_
    refine oS (fun _ k => XS.iloadN X344.here hx rfl (hb hby d3_34) rfl k) ?_
    refine oS (fun _ k => XS.iloadN X344.here hx rfl (hb hby d3_35) rfl k) ?_
    show own_go _ _ _ _ _ _ _ (T344.setTop (mkF m 36 #[.val (.ref a1), .val (.ref a2), .val (.int (0 : Int32)), .val (.int (2 : Int32)), .val .null, .unset] [(.int (2 : Int32)), (.int (0 : Int32)), (.ref a2)]))
    obtain ⟨v346, T346, L346, X346, hQ346, st346⟩ := own_callS X344 hx hZ (argsL := [(.ref a2), (.int (0 : Int32)), (.int (2 : Int32))]) (rest := []) (rm_co_2_0 l Z a0 hw a2 k2 c0 c1 zC vS h0 n0 O0 hS V2 hc0 hc1 hc345) hown (ow hw 36 rfl) (ow hw 37 rfl) (ow hw 38 rfl) (ow hw 39 rfl) (by decide) e344 (g := (mkF m 36 #[.val (.ref a1), .val (.ref a2), .val (.int (0 : Int32)), .val (.int (2 : Int32)), .val .null, .unset] [(.int (2 : Int32)), (.int (0 : Int32)), (.ref a2)])) rfl (by rw [hml]; rfl) (lenOf own_pd__28_5bCII_29_5bB rfl) rfl (W := 0) (by show 2 * 0 + _ ≤ _; exact Nat.le_of_eq rfl) (hb hby d3_36) (by decide) (by decide) (by decide) (by decide)
    obtain ⟨r346, kr346, rfl, Nq346, Kq346, sz346, Vq346⟩ := hQ346
    have N346 := Fr.app N0 Nq346
    have ne_a1_r346 : a1 ≠ r346 := (Nat.ne_of_lt (Nat.lt_of_lt_of_le E_a1.lt sz346))
    have ne_a2_r346 : a2 ≠ r346 := (Nat.ne_of_lt (Nat.lt_of_lt_of_le V2.lt sz346))
    have O346 := O0.keep Kq346 all0
    have K346 := K0.trans Kq346 all0
    refine oS st346 ?_
    show own_go _ _ _ _ _ _ _ (T346.setTop (mkF m 39 #[.val (.ref a1), .val (.ref a2), .val (.int (0 : Int32)), .val (.int (2 : Int32)), .val .null, .unset] [(.ref r346)]))
    refine oS (fun _ k => XS.astore X346.here hx rfl (hb hby d3_39) rfl rfl (l' := #[.val (.ref a1), .val (.ref a2), .val (.int (0 : Int32)), .val (.int (2 : Int32)), .val .null, .val (.ref r346)]) rfl k) ?_
    refine oS (fun _ k => XS.aloadN X346.here hx rfl (hb hby d3_41) rfl rfl k) ?_
    refine oS (fun _ k => XS.aload X346.here hx rfl (hb hby d3_42) rfl rfl k) ?_
    refine oS (fun _ k => XS.iloadN X346.here hx rfl (hb hby d3_44) rfl k) ?_
    show own_go _ _ _ _ _ _ _ (T346.setTop (mkF m 45 #[.val (.ref a1), .val (.ref a2), .val (.int (0 : Int32)), .val (.int (2 : Int32)), .val .null, .val (.ref r346)] [(.int (2 : Int32)), (.ref r346), (.ref a1)]))
    obtain ⟨v347, T347, L347, X347, hQ347, st347⟩ := own_callS X346 hx hZ (argsL := [(.ref r346), (.int (2 : Int32))]) (rest := [(.ref a1)]) (rm_cfW_2 l Z a0 hw r346 kr346 _ T346.heap n0 O346 Vq346) hown (ow hw 43 rfl) (ow hw 44 rfl) (ow hw 38 rfl) (ow hw 45 rfl) (by decide) rfl (g := (mkF m 45 #[.val (.ref a1), .val (.ref a2), .val (.int (0 : Int32)), .val (.int (2 : Int32)), .val .null, .val (.ref r346)] [(.int (2 : Int32)), (.ref r346), (.ref a1)])) rfl (by rw [hml]; rfl) (lenOf own_pd__28_5bBI_29B rfl) rfl (W := 1) (by show 2 * 0 + _ ≤ _; exact Nat.le_of_eq rfl) (hb hby d3_45) (by decide) (by decide) (by decide) (by decide)
    obtain ⟨rfl, Nq347, eq347⟩ := hQ347
    have N347 := Fr.app N346 Nq347
    refine oS st347 ?_
    show own_go _ _ _ _ _ _ _ (T347.setTop (mkF m 48 #[.val (.ref a1), .val (.ref a2), .val (.int (0 : Int32)), .val (.int (2 : Int32)), .val .null, .val (.ref r346)] [(.int (1 : Int32)), (.ref a1)]))
    have f349 := (F_a1_coder.keep Kq346 nin0)
    have f350 := (E_a1.keep Kq346)
    obtain ⟨T348, h348, X348, e348, W348, st348⟩ := putF X347 hx hZ hown (host := "") (Or.inl (ow hw 25 rfl)) Via.refl eq347 f349 f350 (Or.inr ⟨(ow hw 21 rfl), rfl, hnm⟩) (ow hw 5 rfl) (ty := .byte) (by decide) rfl rfl (g := (mkF m 48 #[.val (.ref a1), .val (.ref a2), .val (.int (0 : Int32)), .val (.int (2 : Int32)), .val .null, .val (.ref r346)] [(.int (1 : Int32)), (.ref a1)])) rfl rfl (hb hby d3_48)
    have N348 := Fr.snoc X348 N347 ge_a1
    have O351 := O346.wr W348 ge_a1
    have K351 := K346.wr W348 (Or.inl (List.mem_of_getElem? (i := 0) rfl))
    have F348 := f349.same W348
    refine oS st348 ?_
    show own_go _ _ _ _ _ _ _ (T348.setTop (mkF m 51 #[.val (.ref a1), .val (.ref a2), .val (.int (0 : Int32)), .val (.int (2 : Int32)), .val .null, .val (.ref r346)] []))
    refine oS (fun _ k => XS.aloadN X348.here hx rfl (hb hby d3_51) rfl rfl k) ?_
    refine oS (fun _ k => XS.aload X348.here hx rfl (hb hby d3_52) rfl rfl k) ?_
    show own_go _ _ _ _ _ _ _ (T348.setTop (mkF m 54 #[.val (.ref a1), .val (.ref a2), .val (.int (0 : Int32)), .val (.int (2 : Int32)), .val .null, .val (.ref r346)] [(.ref r346), (.ref a1)]))
    have f353 := ((F_a1_value.keep Kq346 nin0).other W348 (Or.inr (slot_ne (Or.inr (ow hw 20 rfl)) (Or.inr (ow hw 21 rfl)) (by decide) (t := (.array .byte)) (t' := .byte) (by decide) (by decide))))
    have f354 := (f350.wr W348)
    obtain ⟨T352, h352, X352, e352, W352, st352⟩ := putF X348 hx hZ hown (host := "") (Or.inl (ow hw 24 rfl)) Via.refl e348 f353 f354 (Or.inr ⟨(ow hw 20 rfl), rfl, hnm⟩) (ow hw 5 rfl) (ty := (.array .byte)) (by decide) rfl rfl (g := (mkF m 54 #[.val (.ref a1), .val (.ref a2), .val (.int (0 : Int32)), .val (.int (2 : Int32)), .val .null, .val (.ref r346)] [(.ref r346), (.ref a1)])) rfl rfl (hb hby d3_54)
    have N352 := Fr.snoc X352 N348 ge_a1
    have O355 := O351.wr W352 ge_a1
    have K355 := K351.wr W352 (Or.inl (List.mem_of_getElem? (i := 0) rfl))
    have F352 := f353.same W352
    refine oS st352 ?_
    show own_go _ _ _ _ _ _ _ (T352.setTop (mkF m 57 #[.val (.ref a1), .val (.ref a2), .val (.int (0 : Int32)), .val (.int (2 : Int32)), .val .null, .val (.ref r346)] []))
    have f356 := (F348.other W352 (Or.inr (slot_ne (Or.inr (ow hw 21 rfl)) (Or.inr (ow hw 20 rfl)) (by decide) (t := .byte) (t' := (.array .byte)) (by decide) (by decide))))
    have f357 := ((Vq346.other W348 (Ne.symm ne_a1_r346)).other W352 (Ne.symm ne_a1_r346))
    exact own_ret0 X352 hx hlk hret (hb hby d3_57) (by decide) (by decide) (by rw [e352]; exact ⟨rfl, N352, K355, _, _, (Nat.le_trans K0.1 sz346), F352, Or.inr ⟨f356, f357⟩⟩)
  · skip
    show own_go _ _ _ _ _ _ _ (T344.setTop (mkF m 33 #[.val (.ref a1), .val (.ref a2), .val (.int (0 : Int32)), .val (.int (2 : Int32)), .val .null, .unset] []))
    by_cases hc358 : (255 : Int32) < c1
    · skip
      refine oS (fun _ k => XS.aloadN X344.here hx rfl (hb hby d3_33) rfl rfl k) ?_
      refine oS (fun _ k => XS.iloadN X344.here hx rfl (hb hby d3_34) rfl k) ?_
      refine oS (fun _ k => XS.iloadN X344.here hx rfl (hb hby d3_35) rfl k) ?_
      show own_go _ _ _ _ _ _ _ (T344.setTop (mkF m 36 #[.val (.ref a1), .val (.ref a2), .val (.int (0 : Int32)), .val (.int (2 : Int32)), .val .null, .unset] [(.int (2 : Int32)), (.int (0 : Int32)), (.ref a2)]))
      obtain ⟨v359, T359, L359, X359, hQ359, st359⟩ := own_callS X344 hx hZ (argsL := [(.ref a2), (.int (0 : Int32)), (.int (2 : Int32))]) (rest := []) (rm_co_2_1 l Z a0 hw a2 k2 c0 c1 zC vS h0 n0 O0 hS V2 hc0 hc1 hc345 hc358) hown (ow hw 36 rfl) (ow hw 37 rfl) (ow hw 38 rfl) (ow hw 39 rfl) (by decide) e344 (g := (mkF m 36 #[.val (.ref a1), .val (.ref a2), .val (.int (0 : Int32)), .val (.int (2 : Int32)), .val .null, .unset] [(.int (2 : Int32)), (.int (0 : Int32)), (.ref a2)])) rfl (by rw [hml]; rfl) (lenOf own_pd__28_5bCII_29_5bB rfl) rfl (W := 0) (by show 2 * 0 + _ ≤ _; exact Nat.le_of_eq rfl) (hb hby d3_36) (by decide) (by decide) (by decide) (by decide)
      obtain ⟨r359, kr359, rfl, Nq359, Kq359, sz359, Vq359⟩ := hQ359
      have N359 := Fr.app N0 Nq359
      have ne_a1_r359 : a1 ≠ r359 := (Nat.ne_of_lt (Nat.lt_of_lt_of_le E_a1.lt sz359))
      have ne_a2_r359 : a2 ≠ r359 := (Nat.ne_of_lt (Nat.lt_of_lt_of_le V2.lt sz359))
      have O359 := O0.keep Kq359 all0
      have K359 := K0.trans Kq359 all0
      refine oS st359 ?_
      show own_go _ _ _ _ _ _ _ (T359.setTop (mkF m 39 #[.val (.ref a1), .val (.ref a2), .val (.int (0 : Int32)), .val (.int (2 : Int32)), .val .null, .unset] [(.ref r359)]))
      refine oS (fun _ k => XS.astore X359.here hx rfl (hb hby d3_39) rfl rfl (l' := #[.val (.ref a1), .val (.ref a2), .val (.int (0 : Int32)), .val (.int (2 : Int32)), .val .null, .val (.ref r359)]) rfl k) ?_
      refine oS (fun _ k => XS.aloadN X359.here hx rfl (hb hby d3_41) rfl rfl k) ?_
      refine oS (fun _ k => XS.aload X359.here hx rfl (hb hby d3_42) rfl rfl k) ?_
      refine oS (fun _ k => XS.iloadN X359.here hx rfl (hb hby d3_44) rfl k) ?_
      show own_go _ _ _ _ _ _ _ (T359.setTop (mkF m 45 #[.val (.ref a1), .val (.ref a2), .val (.int (0 : Int32)), .val (.int (2 : Int32)), .val .null, .val (.ref r359)] [(.int (2 : Int32)), (.ref r359), (.ref a1)]))
      obtain ⟨v360, T360, L360, X360, hQ360, st360⟩ := own_callS X359 hx hZ (argsL := [(.ref r359), (.int (2 : Int32))]) (rest := [(.ref a1)]) (rm_cfW_2 l Z a0 hw r359 kr359 _ T359.heap n0 O359 Vq359) hown (ow hw 43 rfl) (ow hw 44 rfl) (ow hw 38 rfl) (ow hw 45 rfl) (by decide) rfl (g := (mkF m 45 #[.val (.ref a1), .val (.ref a2), .val (.int (0 : Int32)), .val (.int (2 : Int32)), .val .null, .val (.ref r359)] [(.int (2 : Int32)), (.ref r359), (.ref a1)])) rfl (by rw [hml]; rfl) (lenOf own_pd__28_5bBI_29B rfl) rfl (W := 1) (by show 2 * 0 + _ ≤ _; exact Nat.le_of_eq rfl) (hb hby d3_45) (by decide) (by decide) (by decide) (by decide)
      obtain ⟨rfl, Nq360, eq360⟩ := hQ360
      have N360 := Fr.app N359 Nq360
      refine oS st360 ?_
      show own_go _ _ _ _ _ _ _ (T360.setTop (mkF m 48 #[.val (.ref a1), .val (.ref a2), .val (.int (0 : Int32)), .val (.int (2 : Int32)), .val .null, .val (.ref r359)] [(.int (1 : Int32)), (.ref a1)]))
      have f362 := (F_a1_coder.keep Kq359 nin0)
      have f363 := (E_a1.keep Kq359)
      obtain ⟨T361, h361, X361, e361, W361, st361⟩ := putF X360 hx hZ hown (host := "") (Or.inl (ow hw 25 rfl)) Via.refl eq360 f362 f363 (Or.inr ⟨(ow hw 21 rfl), rfl, hnm⟩) (ow hw 5 rfl) (ty := .byte) (by decide) rfl rfl (g := (mkF m 48 #[.val (.ref a1), .val (.ref a2), .val (.int (0 : Int32)), .val (.int (2 : Int32)), .val .null, .val (.ref r359)] [(.int (1 : Int32)), (.ref a1)])) rfl rfl (hb hby d3_48)
      have N361 := Fr.snoc X361 N360 ge_a1
      have O364 := O359.wr W361 ge_a1
      have K364 := K359.wr W361 (Or.inl (List.mem_of_getElem? (i := 0) rfl))
      have F361 := f362.same W361
      refine oS st361 ?_
      show own_go _ _ _ _ _ _ _ (T361.setTop (mkF m 51 #[.val (.ref a1), .val (.ref a2), .val (.int (0 : Int32)), .val (.int (2 : Int32)), .val .null, .val (.ref r359)] []))
      refine oS (fun _ k => XS.aloadN X361.here hx rfl (hb hby d3_51) rfl rfl k) ?_
      refine oS (fun _ k => XS.aload X361.here hx rfl (hb hby d3_52) rfl rfl k) ?_
      show own_go _ _ _ _ _ _ _ (T361.setTop (mkF m 54 #[.val (.ref a1), .val (.ref a2), .val (.int (0 : Int32)), .val (.int (2 : Int32)), .val .null, .val (.ref r359)] [(.ref r359), (.ref a1)]))
      have f366 := ((F_a1_value.keep Kq359 nin0).other W361 (Or.inr (slot_ne (Or.inr (ow hw 20 rfl)) (Or.inr (ow hw 21 rfl)) (by decide) (t := (.array .byte)) (t' := .byte) (by decide) (by decide))))
      have f367 := (f363.wr W361)
      obtain ⟨T365, h365, X365, e365, W365, st365⟩ := putF X361 hx hZ hown (host := "") (Or.inl (ow hw 24 rfl)) Via.refl e361 f366 f367 (Or.inr ⟨(ow hw 20 rfl), rfl, hnm⟩) (ow hw 5 rfl) (ty := (.array .byte)) (by decide) rfl rfl (g := (mkF m 54 #[.val (.ref a1), .val (.ref a2), .val (.int (0 : Int32)), .val (.int (2 : Int32)), .val .null, .val (.ref r359)] [(.ref r359), (.ref a1)])) rfl rfl (hb hby d3_54)
      have N365 := Fr.snoc X365 N361 ge_a1
      have O368 := O364.wr W365 ge_a1
      have K368 := K364.wr W365 (Or.inl (List.mem_of_getElem? (i := 0) rfl))
      have F365 := f366.same W365
      refine oS st365 ?_
      show own_go _ _ _ _ _ _ _ (T365.setTop (mkF m 57 #[.val (.ref a1), .val (.ref a2), .val (.int (0 : Int32)), .val (.int (2 : Int32)), .val .null, .val (.ref r359)] []))
      have f369 := (F361.other W365 (Or.inr (slot_ne (Or.inr (ow hw 21 rfl)) (Or.inr (ow hw 20 rfl)) (by decide) (t := .byte) (t' := (.array .byte)) (by decide) (by decide))))
      have f370 := ((Vq359.other W361 (Ne.symm ne_a1_r359)).other W365 (Ne.symm ne_a1_r359))
      exact own_ret0 X365 hx hlk hret (hb hby d3_57) (by decide) (by decide) (by rw [e365]; exact ⟨rfl, N365, K368, _, _, (Nat.le_trans K0.1 sz359), F365, Or.inr ⟨f369, f370⟩⟩)
    · skip
      refine oS (fun _ k => XS.aloadN X344.here hx rfl (hb hby d3_33) rfl rfl k) ?_
      refine oS (fun _ k => XS.iloadN X344.here hx rfl (hb hby d3_34) rfl k) ?_
      refine oS (fun _ k => XS.iloadN X344.here hx rfl (hb hby d3_35) rfl k) ?_
      show own_go _ _ _ _ _ _ _ (T344.setTop (mkF m 36 #[.val (.ref a1), .val (.ref a2), .val (.int (0 : Int32)), .val (.int (2 : Int32)), .val .null, .unset] [(.int (2 : Int32)), (.int (0 : Int32)), (.ref a2)]))
      obtain ⟨v371, T371, L371, X371, hQ371, st371⟩ := own_callS X344 hx hZ (argsL := [(.ref a2), (.int (0 : Int32)), (.int (2 : Int32))]) (rest := []) (rm_co_2_2 l Z a0 hw a2 k2 c0 c1 zC vS h0 n0 O0 hS V2 hc0 hc1 hc345 hc358) hown (ow hw 36 rfl) (ow hw 37 rfl) (ow hw 38 rfl) (ow hw 39 rfl) (by decide) e344 (g := (mkF m 36 #[.val (.ref a1), .val (.ref a2), .val (.int (0 : Int32)), .val (.int (2 : Int32)), .val .null, .unset] [(.int (2 : Int32)), (.int (0 : Int32)), (.ref a2)])) rfl (by rw [hml]; rfl) (lenOf own_pd__28_5bCII_29_5bB rfl) rfl (W := 0) (by show 2 * 0 + _ ≤ _; exact Nat.le_of_eq rfl) (hb hby d3_36) (by decide) (by decide) (by decide) (by decide)
      obtain ⟨r371, kr371, rfl, Nq371, Kq371, sz371, Vq371⟩ := hQ371
      have N371 := Fr.app N0 Nq371
      have ne_a1_r371 : a1 ≠ r371 := (Nat.ne_of_lt (Nat.lt_of_lt_of_le E_a1.lt sz371))
      have ne_a2_r371 : a2 ≠ r371 := (Nat.ne_of_lt (Nat.lt_of_lt_of_le V2.lt sz371))
      have O371 := O0.keep Kq371 all0
      have K371 := K0.trans Kq371 all0
      refine oS st371 ?_
      show own_go _ _ _ _ _ _ _ (T371.setTop (mkF m 39 #[.val (.ref a1), .val (.ref a2), .val (.int (0 : Int32)), .val (.int (2 : Int32)), .val .null, .unset] [(.ref r371)]))
      refine oS (fun _ k => XS.astore X371.here hx rfl (hb hby d3_39) rfl rfl (l' := #[.val (.ref a1), .val (.ref a2), .val (.int (0 : Int32)), .val (.int (2 : Int32)), .val .null, .val (.ref r371)]) rfl k) ?_
      refine oS (fun _ k => XS.aloadN X371.here hx rfl (hb hby d3_41) rfl rfl k) ?_
      refine oS (fun _ k => XS.aload X371.here hx rfl (hb hby d3_42) rfl rfl k) ?_
      refine oS (fun _ k => XS.iloadN X371.here hx rfl (hb hby d3_44) rfl k) ?_
      show own_go _ _ _ _ _ _ _ (T371.setTop (mkF m 45 #[.val (.ref a1), .val (.ref a2), .val (.int (0 : Int32)), .val (.int (2 : Int32)), .val .null, .val (.ref r371)] [(.int (2 : Int32)), (.ref r371), (.ref a1)]))
      obtain ⟨v372, T372, L372, X372, hQ372, st372⟩ := own_callS X371 hx hZ (argsL := [(.ref r371), (.int (2 : Int32))]) (rest := [(.ref a1)]) (rm_cfL_2 l Z a0 hw r371 kr371 _ T371.heap n0 O371 Vq371) hown (ow hw 43 rfl) (ow hw 44 rfl) (ow hw 38 rfl) (ow hw 45 rfl) (by decide) rfl (g := (mkF m 45 #[.val (.ref a1), .val (.ref a2), .val (.int (0 : Int32)), .val (.int (2 : Int32)), .val .null, .val (.ref r371)] [(.int (2 : Int32)), (.ref r371), (.ref a1)])) rfl (by rw [hml]; rfl) (lenOf own_pd__28_5bBI_29B rfl) rfl (W := 1) (by show 2 * 0 + _ ≤ _; exact Nat.le_of_eq rfl) (hb hby d3_45) (by decide) (by decide) (by decide) (by decide)
      obtain ⟨rfl, Nq372, eq372⟩ := hQ372
      have N372 := Fr.app N371 Nq372
      refine oS st372 ?_
      show own_go _ _ _ _ _ _ _ (T372.setTop (mkF m 48 #[.val (.ref a1), .val (.ref a2), .val (.int (0 : Int32)), .val (.int (2 : Int32)), .val .null, .val (.ref r371)] [(.int (0 : Int32)), (.ref a1)]))
      have f374 := (F_a1_coder.keep Kq371 nin0)
      have f375 := (E_a1.keep Kq371)
      obtain ⟨T373, h373, X373, e373, W373, st373⟩ := putF X372 hx hZ hown (host := "") (Or.inl (ow hw 25 rfl)) Via.refl eq372 f374 f375 (Or.inr ⟨(ow hw 21 rfl), rfl, hnm⟩) (ow hw 5 rfl) (ty := .byte) (by decide) rfl rfl (g := (mkF m 48 #[.val (.ref a1), .val (.ref a2), .val (.int (0 : Int32)), .val (.int (2 : Int32)), .val .null, .val (.ref r371)] [(.int (0 : Int32)), (.ref a1)])) rfl rfl (hb hby d3_48)
      have N373 := Fr.snoc X373 N372 ge_a1
      have O376 := O371.wr W373 ge_a1
      have K376 := K371.wr W373 (Or.inl (List.mem_of_getElem? (i := 0) rfl))
      have F373 := f374.same W373
      refine oS st373 ?_
      show own_go _ _ _ _ _ _ _ (T373.setTop (mkF m 51 #[.val (.ref a1), .val (.ref a2), .val (.int (0 : Int32)), .val (.int (2 : Int32)), .val .null, .val (.ref r371)] []))
      refine oS (fun _ k => XS.aloadN X373.here hx rfl (hb hby d3_51) rfl rfl k) ?_
      refine oS (fun _ k => XS.aload X373.here hx rfl (hb hby d3_52) rfl rfl k) ?_
      show own_go _ _ _ _ _ _ _ (T373.setTop (mkF m 54 #[.val (.ref a1), .val (.ref a2), .val (.int (0 : Int32)), .val (.int (2 : Int32)), .val .null, .val (.ref r371)] [(.ref r371), (.ref a1)]))
      have f378 := ((F_a1_value.keep Kq371 nin0).other W373 (Or.inr (slot_ne (Or.inr (ow hw 20 rfl)) (Or.inr (ow hw 21 rfl)) (by decide) (t := (.array .byte)) (t' := .byte) (by decide) (by decide))))
      have f379 := (f375.wr W373)
      obtain ⟨T377, h377, X377, e377, W377, st377⟩ := putF X373 hx hZ hown (host := "") (Or.inl (ow hw 24 rfl)) Via.refl e373 f378 f379 (Or.inr ⟨(ow hw 20 rfl), rfl, hnm⟩) (ow hw 5 rfl) (ty := (.array .byte)) (by decide) rfl rfl (g := (mkF m 54 #[.val (.ref a1), .val (.ref a2), .val (.int (0 : Int32)), .val (.int (2 : Int32)), .val .null, .val (.ref r371)] [(.ref r371), (.ref a1)])) rfl rfl (hb hby d3_54)
      have N377 := Fr.snoc X377 N373 ge_a1
      have O380 := O376.wr W377 ge_a1
      have K380 := K376.wr W377 (Or.inl (List.mem_of_getElem? (i := 0) rfl))
      have F377 := f378.same W377
      refine oS st377 ?_
      show own_go _ _ _ _ _ _ _ (T377.setTop (mkF m 57 #[.val (.ref a1), .val (.ref a2), .val (.int (0 : Int32)), .val (.int (2 : Int32)), .val .null, .val (.ref r371)] []))
      have f381 := (F373.other W377 (Or.inr (slot_ne (Or.inr (ow hw 21 rfl)) (Or.inr (ow hw 20 rfl)) (by decide) (t := .byte) (t' := (.array .byte)) (by decide) (by decide))))
      have f382 := ((Vq371.other W373 (Ne.symm ne_a1_r371)).other W377 (Ne.symm ne_a1_r371))
      exact own_ret0 X377 hx hlk hret (hb hby d3_57) (by decide) (by decide) (by rw [e377]; exact ⟨rfl, N377, K380, _, _, (Nat.le_trans K0.1 sz371), F377, Or.inl ⟨f381, f382, hc345, hc358⟩⟩)
theorem own_ef_rm_s1_2 (m : MethodId) (a1 : Addr) (a2 : Addr) : entryFrame m #[(.ref a1), (.ref a2)] 2 = mkF m 0 #[.val (.ref a1), .val (.ref a2)] [] := by first | (simp [entryFrame, mkF, argsToLocals, Value.category]; done) | rfl
set_option maxRecDepth 65536 in
set_option maxHeartbeats 40000000 in
theorem rm_s1_2 (l : Launch) (Z : State) (a0 : Array Value) (hw : ∀ d ∈ tables_1, d.before a0 Z = true) (a1 a2 : Addr) (k2 : ClassId) (c0 c1 : Int32) (zC : Int32) (vS : Value) (h0 : Heap) (n0 : Nat) (O0 : Old Z n0 h0) (hS : own_S Z zC vS) (ge_a1 : n0 ≤ a1) (E_a1 : Exa Z h0 a1 "java/lang/String") (F_a1_value : Fld Z h0 a1 "java/lang/String" "value" "[B" .null) (F_a1_coder : Fld Z h0 a1 "java/lang/String" "coder" "B" (.int (0 : Int32))) (V2 : Arv Z h0 a2 k2 .char (2 : Int32) [(.int c0), (.int c1)] (.int (0 : Int32))) (hc0 : own_ch c0) (hc1 : own_ch c1) :
    own_Met l Z (⟨"java/lang/String", "<init>", "([C)V"⟩ : MethodName) jdk_42_method_3_code 2 none [] ({ frames := 5, cells := 2, slots := 6, locals := 100 } : Room) #[(.ref a1), (.ref a2)] h0 (fun v h L => v = none ∧ Fr n0 L ∧ Keep h0 h [a1] ∧ ∃ t k, h0.size ≤ t ∧ Fld Z h a1 "java/lang/String" "value" "[B" (.ref t) ∧ ((Fld Z h a1 "java/lang/String" "coder" "B" (.int (0 : Int32)) ∧ Arv Z h t k .byte (2 : Int32) [(.int (c0.toInt8.toInt32)), (.int (c1.toInt8.toInt32))] (.int (0 : Int32)) ∧ ¬ (255 : Int32) < c0 ∧ ¬ (255 : Int32) < c1) ∨ (Fld Z h a1 "java/lang/String" "coder" "B" (.int (1 : Int32)) ∧ Arv Z h t k .byte (4 : Int32) [(.int (c0.toInt8.toInt32)), (.int ((c0 >>> ((8 : Int32) &&& 31)).toInt8.toInt32)), (.int (c1.toInt8.toInt32)), (.int ((c1 >>> ((8 : Int32) &&& 31)).toInt8.toInt32))] (.int (0 : Int32))))) := by
  refine own_body own_pn_2 ?_
  intro p e s m below meth c s₁ hx hby hml hown hnm hret hlk X0 hZ e0
  replace hown : s.vm.findClass "java/lang/String" = some m.cls := hown
  have N0 := Fr.nil n0
  have K0 := Keep.refl h0 [a1]
  refine oS (fun _ k => castTop (own_ef_rm_s1_2 m a1 a2) k) ?_
  show own_go _ _ _ _ _ _ _ (s₁.setTop (mkF m 0 #[.val (.ref a1), .val (.ref a2)] []))
  refine oS (fun _ k => XS.aloadN X0.here hx rfl (hb hby d2_0) rfl rfl k) ?_
  refine oS (fun _ k => XS.aloadN X0.here hx rfl (hb hby d2_1) rfl rfl k) ?_
  refine oS (fun _ k => XS.iconst X0.here hx rfl (hb hby d2_2) k) ?_
  refine oS (fun _ k => XS.aloadN X0.here hx rfl (hb hby d2_3) rfl rfl k) ?_
  show own_go _ _ _ _ _ _ _ (s₁.setTop (mkF m 4 #[.val (.ref a1), .val (.ref a2)] [(.ref a2), (.int (0 : Int32)), (.ref a2), (.ref a1)]))
  refine oS (own_len X0 hx hZ e0 V2 (g := (mkF m 4 #[.val (.ref a1), .val (.ref a2)] [(.ref a2), (.int (0 : Int32)), (.ref a2), (.ref a1)])) rfl rfl (hb hby d2_4)) ?_
  show own_go _ _ _ _ _ _ _ (s₁.setTop (mkF m 5 #[.val (.ref a1), .val (.ref a2)] [(.int (2 : Int32)), (.int (0 : Int32)), (.ref a2), (.ref a1)]))
  refine oS (fun _ k => XS.aconstNull X0.here hx rfl (hb hby d2_5) k) ?_
  show own_go _ _ _ _ _ _ _ (s₁.setTop (mkF m 6 #[.val (.ref a1), .val (.ref a2)] [.null, (.int (2 : Int32)), (.int (0 : Int32)), (.ref a2), (.ref a1)]))
  obtain ⟨v383, T383, L383, X383, hQ383, st383⟩ := own_callN X0 hx hZ (argsL := [(.ref a2), (.int (0 : Int32)), (.int (2 : Int32)), .null]) (rest := []) (rm_s4_2 l Z a0 hw a1 a2 k2 c0 c1 zC vS h0 n0 O0 hS ge_a1 E_a1 F_a1_value F_a1_coder V2 hc0 hc1) rfl hown (ow hw 11 rfl) (ow hw 12 rfl) (ow hw 6 rfl) (ow hw 14 rfl) (by decide) e0 (g := (mkF m 6 #[.val (.ref a1), .val (.ref a2)] [.null, (.int (2 : Int32)), (.int (0 : Int32)), (.ref a2), (.ref a1)])) rfl (by rw [hml]; rfl) (lenOf own_pd__28_5bCIILjava_2flang_2fVoid_3b_29V rfl) rfl (W := 0) (by show 2 * 0 + _ ≤ _; exact Nat.le_of_eq rfl) (hb hby d2_6) (by decide) (by decide) (by decide) (by decide)
  obtain ⟨rfl, Nq383, Kq383, t383, kt383, sz383, U383, D383⟩ := hQ383
  have N383 := Fr.app N0 Nq383
  have O383 := O0.keep Kq383 (allS ge_a1 all0)
  have K383 := K0.trans Kq383 (allS (Or.inl (List.mem_of_getElem? (i := 0) rfl)) all0)
  refine oS st383 ?_
  show own_go _ _ _ _ _ _ _ (T383.setTop (mkF m 9 #[.val (.ref a1), .val (.ref a2)] []))
  exact own_ret0 X383 hx hlk hret (hb hby d2_9) (by decide) (by decide) ⟨rfl, N383, K383, t383, kt383, sz383, U383, D383⟩
theorem own_ef_rm_s4_3 (m : MethodId) (a1 : Addr) (a2 : Addr) : entryFrame m #[(.ref a1), (.ref a2), (.int (0 : Int32)), (.int (3 : Int32)), .null] 6 = mkF m 0 #[.val (.ref a1), .val (.ref a2), .val (.int (0 : Int32)), .val (.int (3 : Int32)), .val .null, .unset] [] := by first | (simp [entryFrame, mkF, argsToLocals, Value.category]; done) | rfl
set_option maxRecDepth 65536 in
set_option maxHeartbeats 40000000 in
theorem rm_s4_3 (l : Launch) (Z : State) (a0 : Array Value) (hw : ∀ d ∈ tables_1, d.before a0 Z = true) (a1 a2 : Addr) (k2 : ClassId) (c0 c1 c2 : Int32) (zC : Int32) (vS : Value) (h0 : Heap) (n0 : Nat) (O0 : Old Z n0 h0) (hS : own_S Z zC vS) (ge_a1 : n0 ≤ a1) (E_a1 : Exa Z h0 a1 "java/lang/String") (F_a1_value : Fld Z h0 a1 "java/lang/String" "value" "[B" .null) (F_a1_coder : Fld Z h0 a1 "java/lang/String" "coder" "B" (.int (0 : Int32))) (V2 : Arv Z h0 a2 k2 .char (3 : Int32) [(.int c0), (.int c1), (.int c2)] (.int (0 : Int32))) (hc0 : own_ch c0) (hc1 : own_ch c1) (hc2 : own_ch c2) :
    own_Met l Z (⟨"java/lang/String", "<init>", "([CIILjava/lang/Void;)V"⟩ : MethodName) jdk_42_method_149_code 6 none [] ({ frames := 4, cells := 2, slots := 9, locals := 80 } : Room) #[(.ref a1), (.ref a2), (.int (0 : Int32)), (.int (3 : Int32)), .null] h0 (fun v h L => v = none ∧ Fr n0 L ∧ Keep h0 h [a1] ∧ ∃ t k, h0.size ≤ t ∧ Fld Z h a1 "java/lang/String" "value" "[B" (.ref t) ∧ ((Fld Z h a1 "java/lang/String" "coder" "B" (.int (0 : Int32)) ∧ Arv Z h t k .byte (3 : Int32) [(.int (c0.toInt8.toInt32)), (.int (c1.toInt8.toInt32)), (.int (c2.toInt8.toInt32))] (.int (0 : Int32)) ∧ ¬ (255 : Int32) < c0 ∧ ¬ (255 : Int32) < c1 ∧ ¬ (255 : Int32) < c2) ∨ (Fld Z h a1 "java/lang/String" "coder" "B" (.int (1 : Int32)) ∧ Arv Z h t k .byte (6 : Int32) [(.int (c0.toInt8.toInt32)), (.int ((c0 >>> ((8 : Int32) &&& 31)).toInt8.toInt32)), (.int (c1.toInt8.toInt32)), (.int ((c1 >>> ((8 : Int32) &&& 31)).toInt8.toInt32)), (.int (c2.toInt8.toInt32)), (.int ((c2 >>> ((8 : Int32) &&& 31)).toInt8.toInt32))] (.int (0 : Int32))))) := by
  refine own_body own_pn_3 ?_
  intro p e s m below meth c s₁ hx hby hml hown hnm hret hlk X0 hZ e0
  replace hown : s.vm.findClass "java/lang/String" = some m.cls := hown
  have N0 := Fr.nil n0
  have K0 := Keep.refl h0 [a1]
  refine oS (fun _ k => castTop (own_ef_rm_s4_3 m a1 a2) k) ?_
  show own_go _ _ _ _ _ _ _ (s₁.setTop (mkF m 0 #[.val (.ref a1), .val (.ref a2), .val (.int (0 : Int32)), .val (.int (3 : Int32)), .val .null, .unset] []))
  refine oS (fun _ k => XS.aloadN X0.here hx rfl (hb hby d3_0) rfl rfl k) ?_
  show own_go _ _ _ _ _ _ _ (s₁.setTop (mkF m 1 #[.val (.ref a1), .val (.ref a2), .val (.int (0 : Int32)), .val (.int (3 : Int32)), .val .null, .unset] [(.ref a1)]))
  obtain ⟨T385, X385, e385, st385⟩ := initO X0 hx hZ hown (ow hw 15 rfl) (ow hw 16 rfl) (ow hw 17 rfl) e0 (g := (mkF m 1 #[.val (.ref a1), .val (.ref a2), .val (.int (0 : Int32)), .val (.int (3 : Int32)), .val .null, .unset] [(.ref a1)])) rfl (by rw [hml]; rfl) rfl (hb hby d3_1) (by decide) (W := 0) (by show 2 * 0 + _ ≤ _; exact Nat.le_of_eq rfl) (by decide)
  refine oS st385 ?_
  show own_go _ _ _ _ _ _ _ (T385.setTop (mkF m 4 #[.val (.ref a1), .val (.ref a2), .val (.int (0 : Int32)), .val (.int (3 : Int32)), .val .null, .unset] []))
  refine oS (fun _ k => XS.iloadN X385.here hx rfl (hb hby d3_4) rfl k) ?_
  show own_go _ _ _ _ _ _ _ (T385.setTop (mkF m 5 #[.val (.ref a1), .val (.ref a2), .val (.int (0 : Int32)), .val (.int (3 : Int32)), .val .null, .unset] [(.int (3 : Int32))]))
  refine oS (fun _ k => XS.ifYes X385.here hx rfl (pc0 := 5) (pc' := 27) rfl (hb hby d3_5) rfl (by decide) (by decide) (by decide) k) ?_
  show own_go _ _ _ _ _ _ _ (T385.setTop (mkF m 27 #[.val (.ref a1), .val (.ref a2), .val (.int (0 : Int32)), .val (.int (3 : Int32)), .val .null, .unset] []))
  obtain ⟨T386, X386, e386, st386⟩ := getS2 X385 hx hZ hown (host := "") (Or.inl (ow hw 35 rfl)) Via.refl e385 (hS.1.ext O0.2) (g := (mkF m 27 #[.val (.ref a1), .val (.ref a2), .val (.int (0 : Int32)), .val (.int (3 : Int32)), .val .null, .unset] [])) rfl (hb hby d3_27)
  refine oS st386 ?_
  show own_go _ _ _ _ _ _ _ (T386.setTop (mkF m 30 #[.val (.ref a1), .val (.ref a2), .val (.int (0 : Int32)), .val (.int (3 : Int32)), .val .null, .unset] [(.int zC)]))
  refine oS (fun _ k => XS.ifNo X386.here hx rfl (hb hby d3_30) rfl (XT.i0_eq_f hS.2.1) k) ?_
  show own_go _ _ _ _ _ _ _ (T386.setTop (mkF m 33 #[.val (.ref a1), .val (.ref a2), .val (.int (0 : Int32)), .val (.int (3 : Int32)), .val .null, .unset] []))
  by_cases hc387 : (255 : Int32) < c0
  · skip
    refine oS (fun _ k => XS.aloadN X386.here hx rfl (hb hby d3_33) rfl rfl k) ?_
    refine oS (fun _ k => XS.iloadN X386.here hx rfl (hb hby d3_34) rfl k) ?_
    refine oS (fun _ k => XS.iloadN X386.here hx rfl (hb hby d3_35) rfl k) ?_
    show own_go _ _ _ _ _ _ _ (T386.setTop (mkF m 36 #[.val (.ref a1), .val (.ref a2), .val (.int (0 : Int32)), .val (.int (3 : Int32)), .val .null, .unset] [(.int (3 : Int32)), (.int (0 : Int32)), (.ref a2)]))
    obtain ⟨v388, T388, L388, X388, hQ388, st388⟩ := own_callS X386 hx hZ (argsL := [(.ref a2), (.int (0 : Int32)), (.int (3 : Int32))]) (rest := []) (rm_co_3_0 l Z a0 hw a2 k2 c0 c1 c2 zC vS h0 n0 O0 hS V2 hc0 hc1 hc2 hc387) hown (ow hw 36 rfl) (ow hw 37 rfl) (ow hw 38 rfl) (ow hw 39 rfl) (by decide) e386 (g := (mkF m 36 #[.val (.ref a1), .val (.ref a2), .val (.int (0 : Int32)), .val (.int (3 : Int32)), .val .null, .unset] [(.int (3 : Int32)), (.int (0 : Int32)), (.ref a2)])) rfl (by rw [hml]; rfl) (lenOf own_pd__28_5bCII_29_5bB rfl) rfl (W := 0) (by show 2 * 0 + _ ≤ _; exact Nat.le_of_eq rfl) (hb hby d3_36) (by decide) (by decide) (by decide) (by decide)
    obtain ⟨r388, kr388, rfl, Nq388, Kq388, sz388, Vq388⟩ := hQ388
    have N388 := Fr.app N0 Nq388
    have ne_a1_r388 : a1 ≠ r388 := (Nat.ne_of_lt (Nat.lt_of_lt_of_le E_a1.lt sz388))
    have ne_a2_r388 : a2 ≠ r388 := (Nat.ne_of_lt (Nat.lt_of_lt_of_le V2.lt sz388))
    have O388 := O0.keep Kq388 all0
    have K388 := K0.trans Kq388 all0
    refine oS st388 ?_
    show own_go _ _ _ _ _ _ _ (T388.setTop (mkF m 39 #[.val (.ref a1), .val (.ref a2), .val (.int (0 : Int32)), .val (.int (3 : Int32)), .val .null, .unset] [(.ref r388)]))
    refine oS (fun _ k => XS.astore X388.here hx rfl (hb hby d3_39) rfl rfl (l' := #[.val (.ref a1), .val (.ref a2), .val (.int (0 : Int32)), .val (.int (3 : Int32)), .val .null, .val (.ref r388)]) rfl k) ?_
    refine oS (fun _ k => XS.aloadN X388.here hx rfl (hb hby d3_41) rfl rfl k) ?_
    refine oS (fun _ k => XS.aload X388.here hx rfl (hb hby d3_42) rfl rfl k) ?_
    refine oS (fun _ k => XS.iloadN X388.here hx rfl (hb hby d3_44) rfl k) ?_
    show own_go _ _ _ _ _ _ _ (T388.setTop (mkF m 45 #[.val (.ref a1), .val (.ref a2), .val (.int (0 : Int32)), .val (.int (3 : Int32)), .val .null, .val (.ref r388)] [(.int (3 : Int32)), (.ref r388), (.ref a1)]))
    obtain ⟨v389, T389, L389, X389, hQ389, st389⟩ := own_callS X388 hx hZ (argsL := [(.ref r388), (.int (3 : Int32))]) (rest := [(.ref a1)]) (rm_cfW_3 l Z a0 hw r388 kr388 _ T388.heap n0 O388 Vq388) hown (ow hw 43 rfl) (ow hw 44 rfl) (ow hw 38 rfl) (ow hw 45 rfl) (by decide) rfl (g := (mkF m 45 #[.val (.ref a1), .val (.ref a2), .val (.int (0 : Int32)), .val (.int (3 : Int32)), .val .null, .val (.ref r388)] [(.int (3 : Int32)), (.ref r388), (.ref a1)])) rfl (by rw [hml]; rfl) (lenOf own_pd__28_5bBI_29B rfl) rfl (W := 1) (by show 2 * 0 + _ ≤ _; exact Nat.le_of_eq rfl) (hb hby d3_45) (by decide) (by decide) (by decide) (by decide)
    obtain ⟨rfl, Nq389, eq389⟩ := hQ389
    have N389 := Fr.app N388 Nq389
    refine oS st389 ?_
    show own_go _ _ _ _ _ _ _ (T389.setTop (mkF m 48 #[.val (.ref a1), .val (.ref a2), .val (.int (0 : Int32)), .val (.int (3 : Int32)), .val .null, .val (.ref r388)] [(.int (1 : Int32)), (.ref a1)]))
    have f391 := (F_a1_coder.keep Kq388 nin0)
    have f392 := (E_a1.keep Kq388)
    obtain ⟨T390, h390, X390, e390, W390, st390⟩ := putF X389 hx hZ hown (host := "") (Or.inl (ow hw 25 rfl)) Via.refl eq389 f391 f392 (Or.inr ⟨(ow hw 21 rfl), rfl, hnm⟩) (ow hw 5 rfl) (ty := .byte) (by decide) rfl rfl (g := (mkF m 48 #[.val (.ref a1), .val (.ref a2), .val (.int (0 : Int32)), .val (.int (3 : Int32)), .val .null, .val (.ref r388)] [(.int (1 : Int32)), (.ref a1)])) rfl rfl (hb hby d3_48)
    have N390 := Fr.snoc X390 N389 ge_a1
    have O393 := O388.wr W390 ge_a1
    have K393 := K388.wr W390 (Or.inl (List.mem_of_getElem? (i := 0) rfl))
    have F390 := f391.same W390
    refine oS st390 ?_
    show own_go _ _ _ _ _ _ _ (T390.setTop (mkF m 51 #[.val (.ref a1), .val (.ref a2), .val (.int (0 : Int32)), .val (.int (3 : Int32)), .val .null, .val (.ref r388)] []))
    refine oS (fun _ k => XS.aloadN X390.here hx rfl (hb hby d3_51) rfl rfl k) ?_
    refine oS (fun _ k => XS.aload X390.here hx rfl (hb hby d3_52) rfl rfl k) ?_
    show own_go _ _ _ _ _ _ _ (T390.setTop (mkF m 54 #[.val (.ref a1), .val (.ref a2), .val (.int (0 : Int32)), .val (.int (3 : Int32)), .val .null, .val (.ref r388)] [(.ref r388), (.ref a1)]))
    have f395 := ((F_a1_value.keep Kq388 nin0).other W390 (Or.inr (slot_ne (Or.inr (ow hw 20 rfl)) (Or.inr (ow hw 21 rfl)) (by decide) (t := (.array .byte)) (t' := .byte) (by decide) (by decide))))
    have f396 := (f392.wr W390)
    obtain ⟨T394, h394, X394, e394, W394, st394⟩ := putF X390 hx hZ hown (host := "") (Or.inl (ow hw 24 rfl)) Via.refl e390 f395 f396 (Or.inr ⟨(ow hw 20 rfl), rfl, hnm⟩) (ow hw 5 rfl) (ty := (.array .byte)) (by decide) rfl rfl (g := (mkF m 54 #[.val (.ref a1), .val (.ref a2), .val (.int (0 : Int32)), .val (.int (3 : Int32)), .val .null, .val (.ref r388)] [(.ref r388), (.ref a1)])) rfl rfl (hb hby d3_54)
    have N394 := Fr.snoc X394 N390 ge_a1
    have O397 := O393.wr W394 ge_a1
    have K397 := K393.wr W394 (Or.inl (List.mem_of_getElem? (i := 0) rfl))
    have F394 := f395.same W394
    refine oS st394 ?_
    show own_go _ _ _ _ _ _ _ (T394.setTop (mkF m 57 #[.val (.ref a1), .val (.ref a2), .val (.int (0 : Int32)), .val (.int (3 : Int32)), .val .null, .val (.ref r388)] []))
    have f398 := (F390.other W394 (Or.inr (slot_ne (Or.inr (ow hw 21 rfl)) (Or.inr (ow hw 20 rfl)) (by decide) (t := .byte) (t' := (.array .byte)) (by decide) (by decide))))
    have f399 := ((Vq388.other W390 (Ne.symm ne_a1_r388)).other W394 (Ne.symm ne_a1_r388))
    exact own_ret0 X394 hx hlk hret (hb hby d3_57) (by decide) (by decide) (by rw [e394]; exact ⟨rfl, N394, K397, _, _, (Nat.le_trans K0.1 sz388), F394, Or.inr ⟨f398, f399⟩⟩)
  · skip
    show own_go _ _ _ _ _ _ _ (T386.setTop (mkF m 33 #[.val (.ref a1), .val (.ref a2), .val (.int (0 : Int32)), .val (.int (3 : Int32)), .val .null, .unset] []))
    by_cases hc400 : (255 : Int32) < c1
    · skip
      refine oS (fun _ k => XS.aloadN X386.here hx rfl (hb hby d3_33) rfl rfl k) ?_
      refine oS (fun _ k => XS.iloadN X386.here hx rfl (hb hby d3_34) rfl k) ?_
      refine oS (fun _ k => XS.iloadN X386.here hx rfl (hb hby d3_35) rfl k) ?_
      show own_go _ _ _ _ _ _ _ (T386.setTop (mkF m 36 #[.val (.ref a1), .val (.ref a2), .val (.int (0 : Int32)), .val (.int (3 : Int32)), .val .null, .unset] [(.int (3 : Int32)), (.int (0 : Int32)), (.ref a2)]))
      obtain ⟨v401, T401, L401, X401, hQ401, st401⟩ := own_callS X386 hx hZ (argsL := [(.ref a2), (.int (0 : Int32)), (.int (3 : Int32))]) (rest := []) (rm_co_3_1 l Z a0 hw a2 k2 c0 c1 c2 zC vS h0 n0 O0 hS V2 hc0 hc1 hc2 hc387 hc400) hown (ow hw 36 rfl) (ow hw 37 rfl) (ow hw 38 rfl) (ow hw 39 rfl) (by decide) e386 (g := (mkF m 36 #[.val (.ref a1), .val (.ref a2), .val (.int (0 : Int32)), .val (.int (3 : Int32)), .val .null, .unset] [(.int (3 : Int32)), (.int (0 : Int32)), (.ref a2)])) rfl (by rw [hml]; rfl) (lenOf own_pd__28_5bCII_29_5bB rfl) rfl (W := 0) (by show 2 * 0 + _ ≤ _; exact Nat.le_of_eq rfl) (hb hby d3_36) (by decide) (by decide) (by decide) (by decide)
      obtain ⟨r401, kr401, rfl, Nq401, Kq401, sz401, Vq401⟩ := hQ401
      have N401 := Fr.app N0 Nq401
      have ne_a1_r401 : a1 ≠ r401 := (Nat.ne_of_lt (Nat.lt_of_lt_of_le E_a1.lt sz401))
      have ne_a2_r401 : a2 ≠ r401 := (Nat.ne_of_lt (Nat.lt_of_lt_of_le V2.lt sz401))
      have O401 := O0.keep Kq401 all0
      have K401 := K0.trans Kq401 all0
      refine oS st401 ?_
      show own_go _ _ _ _ _ _ _ (T401.setTop (mkF m 39 #[.val (.ref a1), .val (.ref a2), .val (.int (0 : Int32)), .val (.int (3 : Int32)), .val .null, .unset] [(.ref r401)]))
      refine oS (fun _ k => XS.astore X401.here hx rfl (hb hby d3_39) rfl rfl (l' := #[.val (.ref a1), .val (.ref a2), .val (.int (0 : Int32)), .val (.int (3 : Int32)), .val .null, .val (.ref r401)]) rfl k) ?_
      refine oS (fun _ k => XS.aloadN X401.here hx rfl (hb hby d3_41) rfl rfl k) ?_
      refine oS (fun _ k => XS.aload X401.here hx rfl (hb hby d3_42) rfl rfl k) ?_
      refine oS (fun _ k => XS.iloadN X401.here hx rfl (hb hby d3_44) rfl k) ?_
      show own_go _ _ _ _ _ _ _ (T401.setTop (mkF m 45 #[.val (.ref a1), .val (.ref a2), .val (.int (0 : Int32)), .val (.int (3 : Int32)), .val .null, .val (.ref r401)] [(.int (3 : Int32)), (.ref r401), (.ref a1)]))
      obtain ⟨v402, T402, L402, X402, hQ402, st402⟩ := own_callS X401 hx hZ (argsL := [(.ref r401), (.int (3 : Int32))]) (rest := [(.ref a1)]) (rm_cfW_3 l Z a0 hw r401 kr401 _ T401.heap n0 O401 Vq401) hown (ow hw 43 rfl) (ow hw 44 rfl) (ow hw 38 rfl) (ow hw 45 rfl) (by decide) rfl (g := (mkF m 45 #[.val (.ref a1), .val (.ref a2), .val (.int (0 : Int32)), .val (.int (3 : Int32)), .val .null, .val (.ref r401)] [(.int (3 : Int32)), (.ref r401), (.ref a1)])) rfl (by rw [hml]; rfl) (lenOf own_pd__28_5bBI_29B rfl) rfl (W := 1) (by show 2 * 0 + _ ≤ _; exact Nat.le_of_eq rfl) (hb hby d3_45) (by decide) (by decide) (by decide) (by decide)
      obtain ⟨rfl, Nq402, eq402⟩ := hQ402
      have N402 := Fr.app N401 Nq402
      refine oS st402 ?_
      show own_go _ _ _ _ _ _ _ (T402.setTop (mkF m 48 #[.val (.ref a1), .val (.ref a2), .val (.int (0 : Int32)), .val (.int (3 : Int32)), .val .null, .val (.ref r401)] [(.int (1 : Int32)), (.ref a1)]))
      have f404 := (F_a1_coder.keep Kq401 nin0)
      have f405 := (E_a1.keep Kq401)
      obtain ⟨T403, h403, X403, e403, W403, st403⟩ := putF X402 hx hZ hown (host := "") (Or.inl (ow hw 25 rfl)) Via.refl eq402 f404 f405 (Or.inr ⟨(ow hw 21 rfl), rfl, hnm⟩) (ow hw 5 rfl) (ty := .byte) (by decide) rfl rfl (g := (mkF m 48 #[.val (.ref a1), .val (.ref a2), .val (.int (0 : Int32)), .val (.int (3 : Int32)), .val .null, .val (.ref r401)] [(.int (1 : Int32)), (.ref a1)])) rfl rfl (hb hby d3_48)
      have N403 := Fr.snoc X403 N402 ge_a1
      have O406 := O401.wr W403 ge_a1
      have K406 := K401.wr W403 (Or.inl (List.mem_of_getElem? (i := 0) rfl))
      have F403 := f404.same W403
      refine oS st403 ?_
      show own_go _ _ _ _ _ _ _ (T403.setTop (mkF m 51 #[.val (.ref a1), .val (.ref a2), .val (.int (0 : Int32)), .val (.int (3 : Int32)), .val .null, .val (.ref r401)] []))
      refine oS (fun _ k => XS.aloadN X403.here hx rfl (hb hby d3_51) rfl rfl k) ?_
      refine oS (fun _ k => XS.aload X403.here hx rfl (hb hby d3_52) rfl rfl k) ?_
      show own_go _ _ _ _ _ _ _ (T403.setTop (mkF m 54 #[.val (.ref a1), .val (.ref a2), .val (.int (0 : Int32)), .val (.int (3 : Int32)), .val .null, .val (.ref r401)] [(.ref r401), (.ref a1)]))
      have f408 := ((F_a1_value.keep Kq401 nin0).other W403 (Or.inr (slot_ne (Or.inr (ow hw 20 rfl)) (Or.inr (ow hw 21 rfl)) (by decide) (t := (.array .byte)) (t' := .byte) (by decide) (by decide))))
      have f409 := (f405.wr W403)
      obtain ⟨T407, h407, X407, e407, W407, st407⟩ := putF X403 hx hZ hown (host := "") (Or.inl (ow hw 24 rfl)) Via.refl e403 f408 f409 (Or.inr ⟨(ow hw 20 rfl), rfl, hnm⟩) (ow hw 5 rfl) (ty := (.array .byte)) (by decide) rfl rfl (g := (mkF m 54 #[.val (.ref a1), .val (.ref a2), .val (.int (0 : Int32)), .val (.int (3 : Int32)), .val .null, .val (.ref r401)] [(.ref r401), (.ref a1)])) rfl rfl (hb hby d3_54)
      have N407 := Fr.snoc X407 N403 ge_a1
      have O410 := O406.wr W407 ge_a1
      have K410 := K406.wr W407 (Or.inl (List.mem_of_getElem? (i := 0) rfl))
      have F407 := f408.same W407
      refine oS st407 ?_
      show own_go _ _ _ _ _ _ _ (T407.setTop (mkF m 57 #[.val (.ref a1), .val (.ref a2), .val (.int (0 : Int32)), .val (.int (3 : Int32)), .val .null, .val (.ref r401)] []))
      have f411 := (F403.other W407 (Or.inr (slot_ne (Or.inr (ow hw 21 rfl)) (Or.inr (ow hw 20 rfl)) (by decide) (t := .byte) (t' := (.array .byte)) (by decide) (by decide))))
      have f412 := ((Vq401.other W403 (Ne.symm ne_a1_r401)).other W407 (Ne.symm ne_a1_r401))
      exact own_ret0 X407 hx hlk hret (hb hby d3_57) (by decide) (by decide) (by rw [e407]; exact ⟨rfl, N407, K410, _, _, (Nat.le_trans K0.1 sz401), F407, Or.inr ⟨f411, f412⟩⟩)
    · skip
      show own_go _ _ _ _ _ _ _ (T386.setTop (mkF m 33 #[.val (.ref a1), .val (.ref a2), .val (.int (0 : Int32)), .val (.int (3 : Int32)), .val .null, .unset] []))
      by_cases hc413 : (255 : Int32) < c2
      · skip
        refine oS (fun _ k => XS.aloadN X386.here hx rfl (hb hby d3_33) rfl rfl k) ?_
        refine oS (fun _ k => XS.iloadN X386.here hx rfl (hb hby d3_34) rfl k) ?_
        refine oS (fun _ k => XS.iloadN X386.here hx rfl (hb hby d3_35) rfl k) ?_
        show own_go _ _ _ _ _ _ _ (T386.setTop (mkF m 36 #[.val (.ref a1), .val (.ref a2), .val (.int (0 : Int32)), .val (.int (3 : Int32)), .val .null, .unset] [(.int (3 : Int32)), (.int (0 : Int32)), (.ref a2)]))
        obtain ⟨v414, T414, L414, X414, hQ414, st414⟩ := own_callS X386 hx hZ (argsL := [(.ref a2), (.int (0 : Int32)), (.int (3 : Int32))]) (rest := []) (rm_co_3_2 l Z a0 hw a2 k2 c0 c1 c2 zC vS h0 n0 O0 hS V2 hc0 hc1 hc2 hc387 hc400 hc413) hown (ow hw 36 rfl) (ow hw 37 rfl) (ow hw 38 rfl) (ow hw 39 rfl) (by decide) e386 (g := (mkF m 36 #[.val (.ref a1), .val (.ref a2), .val (.int (0 : Int32)), .val (.int (3 : Int32)), .val .null, .unset] [(.int (3 : Int32)), (.int (0 : Int32)), (.ref a2)])) rfl (by rw [hml]; rfl) (lenOf own_pd__28_5bCII_29_5bB rfl) rfl (W := 0) (by show 2 * 0 + _ ≤ _; exact Nat.le_of_eq rfl) (hb hby d3_36) (by decide) (by decide) (by decide) (by decide)
        obtain ⟨r414, kr414, rfl, Nq414, Kq414, sz414, Vq414⟩ := hQ414
        have N414 := Fr.app N0 Nq414
        have ne_a1_r414 : a1 ≠ r414 := (Nat.ne_of_lt (Nat.lt_of_lt_of_le E_a1.lt sz414))
        have ne_a2_r414 : a2 ≠ r414 := (Nat.ne_of_lt (Nat.lt_of_lt_of_le V2.lt sz414))
        have O414 := O0.keep Kq414 all0
        have K414 := K0.trans Kq414 all0
        refine oS st414 ?_
        show own_go _ _ _ _ _ _ _ (T414.setTop (mkF m 39 #[.val (.ref a1), .val (.ref a2), .val (.int (0 : Int32)), .val (.int (3 : Int32)), .val .null, .unset] [(.ref r414)]))
        refine oS (fun _ k => XS.astore X414.here hx rfl (hb hby d3_39) rfl rfl (l' := #[.val (.ref a1), .val (.ref a2), .val (.int (0 : Int32)), .val (.int (3 : Int32)), .val .null, .val (.ref r414)]) rfl k) ?_
        refine oS (fun _ k => XS.aloadN X414.here hx rfl (hb hby d3_41) rfl rfl k) ?_
        refine oS (fun _ k => XS.aload X414.here hx rfl (hb hby d3_42) rfl rfl k) ?_
        refine oS (fun _ k => XS.iloadN X414.here hx rfl (hb hby d3_44) rfl k) ?_
        show own_go _ _ _ _ _ _ _ (T414.setTop (mkF m 45 #[.val (.ref a1), .val (.ref a2), .val (.int (0 : Int32)), .val (.int (3 : Int32)), .val .null, .val (.ref r414)] [(.int (3 : Int32)), (.ref r414), (.ref a1)]))
        obtain ⟨v415, T415, L415, X415, hQ415, st415⟩ := own_callS X414 hx hZ (argsL := [(.ref r414), (.int (3 : Int32))]) (rest := [(.ref a1)]) (rm_cfW_3 l Z a0 hw r414 kr414 _ T414.heap n0 O414 Vq414) hown (ow hw 43 rfl) (ow hw 44 rfl) (ow hw 38 rfl) (ow hw 45 rfl) (by decide) rfl (g := (mkF m 45 #[.val (.ref a1), .val (.ref a2), .val (.int (0 : Int32)), .val (.int (3 : Int32)), .val .null, .val (.ref r414)] [(.int (3 : Int32)), (.ref r414), (.ref a1)])) rfl (by rw [hml]; rfl) (lenOf own_pd__28_5bBI_29B rfl) rfl (W := 1) (by show 2 * 0 + _ ≤ _; exact Nat.le_of_eq rfl) (hb hby d3_45) (by decide) (by decide) (by decide) (by decide)
        obtain ⟨rfl, Nq415, eq415⟩ := hQ415
        have N415 := Fr.app N414 Nq415
        refine oS st415 ?_
        show own_go _ _ _ _ _ _ _ (T415.setTop (mkF m 48 #[.val (.ref a1), .val (.ref a2), .val (.int (0 : Int32)), .val (.int (3 : Int32)), .val .null, .val (.ref r414)] [(.int (1 : Int32)), (.ref a1)]))
        have f417 := (F_a1_coder.keep Kq414 nin0)
        have f418 := (E_a1.keep Kq414)
        obtain ⟨T416, h416, X416, e416, W416, st416⟩ := putF X415 hx hZ hown (host := "") (Or.inl (ow hw 25 rfl)) Via.refl eq415 f417 f418 (Or.inr ⟨(ow hw 21 rfl), rfl, hnm⟩) (ow hw 5 rfl) (ty := .byte) (by decide) rfl rfl (g := (mkF m 48 #[.val (.ref a1), .val (.ref a2), .val (.int (0 : Int32)), .val (.int (3 : Int32)), .val .null, .val (.ref r414)] [(.int (1 : Int32)), (.ref a1)])) rfl rfl (hb hby d3_48)
        have N416 := Fr.snoc X416 N415 ge_a1
        have O419 := O414.wr W416 ge_a1
        have K419 := K414.wr W416 (Or.inl (List.mem_of_getElem? (i := 0) rfl))
        have F416 := f417.same W416
        refine oS st416 ?_
        show own_go _ _ _ _ _ _ _ (T416.setTop (mkF m 51 #[.val (.ref a1), .val (.ref a2), .val (.int (0 : Int32)), .val (.int (3 : Int32)), .val .null, .val (.ref r414)] []))
        refine oS (fun _ k => XS.aloadN X416.here hx rfl (hb hby d3_51) rfl rfl k) ?_
        refine oS (fun _ k => XS.aload X416.here hx rfl (hb hby d3_52) rfl rfl k) ?_
        show own_go _ _ _ _ _ _ _ (T416.setTop (mkF m 54 #[.val (.ref a1), .val (.ref a2), .val (.int (0 : Int32)), .val (.int (3 : Int32)), .val .null, .val (.ref r414)] [(.ref r414), (.ref a1)]))
        have f421 := ((F_a1_value.keep Kq414 nin0).other W416 (Or.inr (slot_ne (Or.inr (ow hw 20 rfl)) (Or.inr (ow hw 21 rfl)) (by decide) (t := (.array .byte)) (t' := .byte) (by decide) (by decide))))
        have f422 := (f418.wr W416)
        obtain ⟨T420, h420, X420, e420, W420, st420⟩ := putF X416 hx hZ hown (host := "") (Or.inl (ow hw 24 rfl)) Via.refl e416 f421 f422 (Or.inr ⟨(ow hw 20 rfl), rfl, hnm⟩) (ow hw 5 rfl) (ty := (.array .byte)) (by decide) rfl rfl (g := (mkF m 54 #[.val (.ref a1), .val (.ref a2), .val (.int (0 : Int32)), .val (.int (3 : Int32)), .val .null, .val (.ref r414)] [(.ref r414), (.ref a1)])) rfl rfl (hb hby d3_54)
        have N420 := Fr.snoc X420 N416 ge_a1
        have O423 := O419.wr W420 ge_a1
        have K423 := K419.wr W420 (Or.inl (List.mem_of_getElem? (i := 0) rfl))
        have F420 := f421.same W420
        refine oS st420 ?_
        show own_go _ _ _ _ _ _ _ (T420.setTop (mkF m 57 #[.val (.ref a1), .val (.ref a2), .val (.int (0 : Int32)), .val (.int (3 : Int32)), .val .null, .val (.ref r414)] []))
        have f424 := (F416.other W420 (Or.inr (slot_ne (Or.inr (ow hw 21 rfl)) (Or.inr (ow hw 20 rfl)) (by decide) (t := .byte) (t' := (.array .byte)) (by decide) (by decide))))
        have f425 := ((Vq414.other W416 (Ne.symm ne_a1_r414)).other W420 (Ne.symm ne_a1_r414))
        exact own_ret0 X420 hx hlk hret (hb hby d3_57) (by decide) (by decide) (by rw [e420]; exact ⟨rfl, N420, K423, _, _, (Nat.le_trans K0.1 sz414), F420, Or.inr ⟨f424, f425⟩⟩)
      · skip
        refine oS (fun _ k => XS.aloadN X386.here hx rfl (hb hby d3_33) rfl rfl k) ?_
        refine oS (fun _ k => XS.iloadN X386.here hx rfl (hb hby d3_34) rfl k) ?_
        refine oS (fun _ k => XS.iloadN X386.here hx rfl (hb hby d3_35) rfl k) ?_
        show own_go _ _ _ _ _ _ _ (T386.setTop (mkF m 36 #[.val (.ref a1), .val (.ref a2), .val (.int (0 : Int32)), .val (.int (3 : Int32)), .val .null, .unset] [(.int (3 : Int32)), (.int (0 : Int32)), (.ref a2)]))
        obtain ⟨v426, T426, L426, X426, hQ426, st426⟩ := own_callS X386 hx hZ (argsL := [(.ref a2), (.int (0 : Int32)), (.int (3 : Int32))]) (rest := []) (rm_co_3_3 l Z a0 hw a2 k2 c0 c1 c2 zC vS h0 n0 O0 hS V2 hc0 hc1 hc2 hc387 hc400 hc413) hown (ow hw 36 rfl) (ow hw 37 rfl) (ow hw 38 rfl) (ow hw 39 rfl) (by decide) e386 (g := (mkF m 36 #[.val (.ref a1), .val (.ref a2), .val (.int (0 : Int32)), .val (.int (3 : Int32)), .val .null, .unset] [(.int (3 : Int32)), (.int (0 : Int32)), (.ref a2)])) rfl (by rw [hml]; rfl) (lenOf own_pd__28_5bCII_29_5bB rfl) rfl (W := 0) (by show 2 * 0 + _ ≤ _; exact Nat.le_of_eq rfl) (hb hby d3_36) (by decide) (by decide) (by decide) (by decide)
        obtain ⟨r426, kr426, rfl, Nq426, Kq426, sz426, Vq426⟩ := hQ426
        have N426 := Fr.app N0 Nq426
        have ne_a1_r426 : a1 ≠ r426 := (Nat.ne_of_lt (Nat.lt_of_lt_of_le E_a1.lt sz426))
        have ne_a2_r426 : a2 ≠ r426 := (Nat.ne_of_lt (Nat.lt_of_lt_of_le V2.lt sz426))
        have O426 := O0.keep Kq426 all0
        have K426 := K0.trans Kq426 all0
        refine oS st426 ?_
        show own_go _ _ _ _ _ _ _ (T426.setTop (mkF m 39 #[.val (.ref a1), .val (.ref a2), .val (.int (0 : Int32)), .val (.int (3 : Int32)), .val .null, .unset] [(.ref r426)]))
        refine oS (fun _ k => XS.astore X426.here hx rfl (hb hby d3_39) rfl rfl (l' := #[.val (.ref a1), .val (.ref a2), .val (.int (0 : Int32)), .val (.int (3 : Int32)), .val .null, .val (.ref r426)]) rfl k) ?_
        refine oS (fun _ k => XS.aloadN X426.here hx rfl (hb hby d3_41) rfl rfl k) ?_
        refine oS (fun _ k => XS.aload X426.here hx rfl (hb hby d3_42) rfl rfl k) ?_
        refine oS (fun _ k => XS.iloadN X426.here hx rfl (hb hby d3_44) rfl k) ?_
        show own_go _ _ _ _ _ _ _ (T426.setTop (mkF m 45 #[.val (.ref a1), .val (.ref a2), .val (.int (0 : Int32)), .val (.int (3 : Int32)), .val .null, .val (.ref r426)] [(.int (3 : Int32)), (.ref r426), (.ref a1)]))
        obtain ⟨v427, T427, L427, X427, hQ427, st427⟩ := own_callS X426 hx hZ (argsL := [(.ref r426), (.int (3 : Int32))]) (rest := [(.ref a1)]) (rm_cfL_3 l Z a0 hw r426 kr426 _ T426.heap n0 O426 Vq426) hown (ow hw 43 rfl) (ow hw 44 rfl) (ow hw 38 rfl) (ow hw 45 rfl) (by decide) rfl (g := (mkF m 45 #[.val (.ref a1), .val (.ref a2), .val (.int (0 : Int32)), .val (.int (3 : Int32)), .val .null, .val (.ref r426)] [(.int (3 : Int32)), (.ref r426), (.ref a1)])) rfl (by rw [hml]; rfl) (lenOf own_pd__28_5bBI_29B rfl) rfl (W := 1) (by show 2 * 0 + _ ≤ _; exact Nat.le_of_eq rfl) (hb hby d3_45) (by decide) (by decide) (by decide) (by decide)
        obtain ⟨rfl, Nq427, eq427⟩ := hQ427
        have N427 := Fr.app N426 Nq427
        refine oS st427 ?_
        show own_go _ _ _ _ _ _ _ (T427.setTop (mkF m 48 #[.val (.ref a1), .val (.ref a2), .val (.int (0 : Int32)), .val (.int (3 : Int32)), .val .null, .val (.ref r426)] [(.int (0 : Int32)), (.ref a1)]))
        have f429 := (F_a1_coder.keep Kq426 nin0)
        have f430 := (E_a1.keep Kq426)
        obtain ⟨T428, h428, X428, e428, W428, st428⟩ := putF X427 hx hZ hown (host := "") (Or.inl (ow hw 25 rfl)) Via.refl eq427 f429 f430 (Or.inr ⟨(ow hw 21 rfl), rfl, hnm⟩) (ow hw 5 rfl) (ty := .byte) (by decide) rfl rfl (g := (mkF m 48 #[.val (.ref a1), .val (.ref a2), .val (.int (0 : Int32)), .val (.int (3 : Int32)), .val .null, .val (.ref r426)] [(.int (0 : Int32)), (.ref a1)])) rfl rfl (hb hby d3_48)
        have N428 := Fr.snoc X428 N427 ge_a1
        have O431 := O426.wr W428 ge_a1
        have K431 := K426.wr W428 (Or.inl (List.mem_of_getElem? (i := 0) rfl))
        have F428 := f429.same W428
        refine oS st428 ?_
        show own_go _ _ _ _ _ _ _ (T428.setTop (mkF m 51 #[.val (.ref a1), .val (.ref a2), .val (.int (0 : Int32)), .val (.int (3 : Int32)), .val .null, .val (.ref r426)] []))
        refine oS (fun _ k => XS.aloadN X428.here hx rfl (hb hby d3_51) rfl rfl k) ?_
        refine oS (fun _ k => XS.aload X428.here hx rfl (hb hby d3_52) rfl rfl k) ?_
        show own_go _ _ _ _ _ _ _ (T428.setTop (mkF m 54 #[.val (.ref a1), .val (.ref a2), .val (.int (0 : Int32)), .val (.int (3 : Int32)), .val .null, .val (.ref r426)] [(.ref r426), (.ref a1)]))
        have f433 := ((F_a1_value.keep Kq426 nin0).other W428 (Or.inr (slot_ne (Or.inr (ow hw 20 rfl)) (Or.inr (ow hw 21 rfl)) (by decide) (t := (.array .byte)) (t' := .byte) (by decide) (by decide))))
        have f434 := (f430.wr W428)
        obtain ⟨T432, h432, X432, e432, W432, st432⟩ := putF X428 hx hZ hown (host := "") (Or.inl (ow hw 24 rfl)) Via.refl e428 f433 f434 (Or.inr ⟨(ow hw 20 rfl), rfl, hnm⟩) (ow hw 5 rfl) (ty := (.array .byte)) (by decide) rfl rfl (g := (mkF m 54 #[.val (.ref a1), .val (.ref a2), .val (.int (0 : Int32)), .val (.int (3 : Int32)), .val .null, .val (.ref r426)] [(.ref r426), (.ref a1)])) rfl rfl (hb hby d3_54)
        have N432 := Fr.snoc X432 N428 ge_a1
        have O435 := O431.wr W432 ge_a1
        have K435 := K431.wr W432 (Or.inl (List.mem_of_getElem? (i := 0) rfl))
        have F432 := f433.same W432
        refine oS st432 ?_
        show own_go _ _ _ _ _ _ _ (T432.setTop (mkF m 57 #[.val (.ref a1), .val (.ref a2), .val (.int (0 : Int32)), .val (.int (3 : Int32)), .val .null, .val (.ref r426)] []))
        have f436 := (F428.other W432 (Or.inr (slot_ne (Or.inr (ow hw 21 rfl)) (Or.inr (ow hw 20 rfl)) (by decide) (t := .byte) (t' := (.array .byte)) (by decide) (by decide))))
        have f437 := ((Vq426.other W428 (Ne.symm ne_a1_r426)).other W432 (Ne.symm ne_a1_r426))
        exact own_ret0 X432 hx hlk hret (hb hby d3_57) (by decide) (by decide) (by rw [e432]; exact ⟨rfl, N432, K435, _, _, (Nat.le_trans K0.1 sz426), F432, Or.inl ⟨f436, f437, hc387, hc400, hc413⟩⟩)
theorem own_ef_rm_s1_3 (m : MethodId) (a1 : Addr) (a2 : Addr) : entryFrame m #[(.ref a1), (.ref a2)] 2 = mkF m 0 #[.val (.ref a1), .val (.ref a2)] [] := by first | (simp [entryFrame, mkF, argsToLocals, Value.category]; done) | rfl
set_option maxRecDepth 65536 in
set_option maxHeartbeats 40000000 in
theorem rm_s1_3 (l : Launch) (Z : State) (a0 : Array Value) (hw : ∀ d ∈ tables_1, d.before a0 Z = true) (a1 a2 : Addr) (k2 : ClassId) (c0 c1 c2 : Int32) (zC : Int32) (vS : Value) (h0 : Heap) (n0 : Nat) (O0 : Old Z n0 h0) (hS : own_S Z zC vS) (ge_a1 : n0 ≤ a1) (E_a1 : Exa Z h0 a1 "java/lang/String") (F_a1_value : Fld Z h0 a1 "java/lang/String" "value" "[B" .null) (F_a1_coder : Fld Z h0 a1 "java/lang/String" "coder" "B" (.int (0 : Int32))) (V2 : Arv Z h0 a2 k2 .char (3 : Int32) [(.int c0), (.int c1), (.int c2)] (.int (0 : Int32))) (hc0 : own_ch c0) (hc1 : own_ch c1) (hc2 : own_ch c2) :
    own_Met l Z (⟨"java/lang/String", "<init>", "([C)V"⟩ : MethodName) jdk_42_method_3_code 2 none [] ({ frames := 5, cells := 2, slots := 9, locals := 100 } : Room) #[(.ref a1), (.ref a2)] h0 (fun v h L => v = none ∧ Fr n0 L ∧ Keep h0 h [a1] ∧ ∃ t k, h0.size ≤ t ∧ Fld Z h a1 "java/lang/String" "value" "[B" (.ref t) ∧ ((Fld Z h a1 "java/lang/String" "coder" "B" (.int (0 : Int32)) ∧ Arv Z h t k .byte (3 : Int32) [(.int (c0.toInt8.toInt32)), (.int (c1.toInt8.toInt32)), (.int (c2.toInt8.toInt32))] (.int (0 : Int32)) ∧ ¬ (255 : Int32) < c0 ∧ ¬ (255 : Int32) < c1 ∧ ¬ (255 : Int32) < c2) ∨ (Fld Z h a1 "java/lang/String" "coder" "B" (.int (1 : Int32)) ∧ Arv Z h t k .byte (6 : Int32) [(.int (c0.toInt8.toInt32)), (.int ((c0 >>> ((8 : Int32) &&& 31)).toInt8.toInt32)), (.int (c1.toInt8.toInt32)), (.int ((c1 >>> ((8 : Int32) &&& 31)).toInt8.toInt32)), (.int (c2.toInt8.toInt32)), (.int ((c2 >>> ((8 : Int32) &&& 31)).toInt8.toInt32))] (.int (0 : Int32))))) := by
  refine own_body own_pn_2 ?_
  intro p e s m below meth c s₁ hx hby hml hown hnm hret hlk X0 hZ e0
  replace hown : s.vm.findClass "java/lang/String" = some m.cls := hown
  have N0 := Fr.nil n0
  have K0 := Keep.refl h0 [a1]
  refine oS (fun _ k => castTop (own_ef_rm_s1_3 m a1 a2) k) ?_
  show own_go _ _ _ _ _ _ _ (s₁.setTop (mkF m 0 #[.val (.ref a1), .val (.ref a2)] []))
  refine oS (fun _ k => XS.aloadN X0.here hx rfl (hb hby d2_0) rfl rfl k) ?_
  refine oS (fun _ k => XS.aloadN X0.here hx rfl (hb hby d2_1) rfl rfl k) ?_
  refine oS (fun _ k => XS.iconst X0.here hx rfl (hb hby d2_2) k) ?_
  refine oS (fun _ k => XS.aloadN X0.here hx rfl (hb hby d2_3) rfl rfl k) ?_
  show own_go _ _ _ _ _ _ _ (s₁.setTop (mkF m 4 #[.val (.ref a1), .val (.ref a2)] [(.ref a2), (.int (0 : Int32)), (.ref a2), (.ref a1)]))
  refine oS (own_len X0 hx hZ e0 V2 (g := (mkF m 4 #[.val (.ref a1), .val (.ref a2)] [(.ref a2), (.int (0 : Int32)), (.ref a2), (.ref a1)])) rfl rfl (hb hby d2_4)) ?_
  show own_go _ _ _ _ _ _ _ (s₁.setTop (mkF m 5 #[.val (.ref a1), .val (.ref a2)] [(.int (3 : Int32)), (.int (0 : Int32)), (.ref a2), (.ref a1)]))
  refine oS (fun _ k => XS.aconstNull X0.here hx rfl (hb hby d2_5) k) ?_
  show own_go _ _ _ _ _ _ _ (s₁.setTop (mkF m 6 #[.val (.ref a1), .val (.ref a2)] [.null, (.int (3 : Int32)), (.int (0 : Int32)), (.ref a2), (.ref a1)]))
  obtain ⟨v438, T438, L438, X438, hQ438, st438⟩ := own_callN X0 hx hZ (argsL := [(.ref a2), (.int (0 : Int32)), (.int (3 : Int32)), .null]) (rest := []) (rm_s4_3 l Z a0 hw a1 a2 k2 c0 c1 c2 zC vS h0 n0 O0 hS ge_a1 E_a1 F_a1_value F_a1_coder V2 hc0 hc1 hc2) rfl hown (ow hw 11 rfl) (ow hw 12 rfl) (ow hw 6 rfl) (ow hw 14 rfl) (by decide) e0 (g := (mkF m 6 #[.val (.ref a1), .val (.ref a2)] [.null, (.int (3 : Int32)), (.int (0 : Int32)), (.ref a2), (.ref a1)])) rfl (by rw [hml]; rfl) (lenOf own_pd__28_5bCIILjava_2flang_2fVoid_3b_29V rfl) rfl (W := 0) (by show 2 * 0 + _ ≤ _; exact Nat.le_of_eq rfl) (hb hby d2_6) (by decide) (by decide) (by decide) (by decide)
  obtain ⟨rfl, Nq438, Kq438, t438, kt438, sz438, U438, D438⟩ := hQ438
  have N438 := Fr.app N0 Nq438
  have O438 := O0.keep Kq438 (allS ge_a1 all0)
  have K438 := K0.trans Kq438 (allS (Or.inl (List.mem_of_getElem? (i := 0) rfl)) all0)
  refine oS st438 ?_
  show own_go _ _ _ _ _ _ _ (T438.setTop (mkF m 9 #[.val (.ref a1), .val (.ref a2)] []))
  exact own_ret0 X438 hx hlk hret (hb hby d2_9) (by decide) (by decide) ⟨rfl, N438, K438, t438, kt438, sz438, U438, D438⟩
theorem d3_8 : decode jdk_42_method_149_code 8 = .ok (.aload_n 0, 1) := by decide +kernel
theorem d3_9 : decode jdk_42_method_149_code 9 = .ok (.ldc 7, 2) := by decide +kernel
theorem d3_11 : decode jdk_42_method_149_code 11 = .ok (.getfield 9, 3) := by decide +kernel
theorem d3_14 : decode jdk_42_method_149_code 14 = .ok (.putfield 9, 3) := by decide +kernel
theorem d3_17 : decode jdk_42_method_149_code 17 = .ok (.aload_n 0, 1) := by decide +kernel
theorem d3_18 : decode jdk_42_method_149_code 18 = .ok (.ldc 7, 2) := by decide +kernel
theorem d3_20 : decode jdk_42_method_149_code 20 = .ok (.getfield 15, 3) := by decide +kernel
theorem d3_23 : decode jdk_42_method_149_code 23 = .ok (.putfield 15, 3) := by decide +kernel
theorem d3_26 : decode jdk_42_method_149_code 26 = .ok (.return_, 1) := by decide +kernel
theorem own_ef_rm_s4e (m : MethodId) (a1 : Addr) (a2 : Addr) : entryFrame m #[(.ref a1), (.ref a2), (.int (0 : Int32)), (.int (0 : Int32)), .null] 6 = mkF m 0 #[.val (.ref a1), .val (.ref a2), .val (.int (0 : Int32)), .val (.int (0 : Int32)), .val .null, .unset] [] := by first | (simp [entryFrame, mkF, argsToLocals, Value.category]; done) | rfl
set_option maxRecDepth 65536 in
set_option maxHeartbeats 40000000 in
theorem rm_s4e (l : Launch) (Z : State) (a0 : Array Value) (hw : ∀ d ∈ tables_1, d.before a0 Z = true) (a1 a2 : Addr) (h0 : Heap) (n0 : Nat) (O0 : Old Z n0 h0) (ge_a1 : n0 ≤ a1) (E_a1 : Exa Z h0 a1 "java/lang/String") (F_a1_value : Fld Z h0 a1 "java/lang/String" "value" "[B" .null) (F_a1_coder : Fld Z h0 a1 "java/lang/String" "coder" "B" (.int (0 : Int32))) :
    own_MetW l Z consts_1 (⟨"java/lang/String", "<init>", "([CIILjava/lang/Void;)V"⟩ : MethodName) jdk_42_method_149_code 6 none [] ({ frames := 1, cells := 4, slots := 8, locals := 12 } : Room) #[(.ref a1), (.ref a2), (.int (0 : Int32)), (.int (0 : Int32)), .null] h0 (fun v h L => v = none ∧ Fr n0 L ∧ Keep h0 h [a1] ∧ ∃ t k, Fld Z h a1 "java/lang/String" "value" "[B" (.ref t) ∧ Arv Z h t k .byte (0 : Int32) [] (.int (0 : Int32))) := by
  refine own_bodyW own_pn_3 ?_
  intro p e s m below meth c s₁ hx hby hml hown hnm hret hlk X0 hZ e0 C0 hS0
  have hk0 : h0.size ≤ h0.size := Nat.le_refl _
  have hEL := own_EW hw
  have wS := own_sA hw
  replace hown : s.vm.findClass "java/lang/String" = some m.cls := hown
  have N0 := Fr.nil n0
  have K0 := Keep.refl h0 [a1]
  refine oT (fun _ k => castTop (own_ef_rm_s4e m a1 a2) k) ?_
  show own_goW _ _ _ _ _ _ _ _ _ _ (s₁.setTop (mkF m 0 #[.val (.ref a1), .val (.ref a2), .val (.int (0 : Int32)), .val (.int (0 : Int32)), .val .null, .unset] []))
  refine oT (fun _ k => XS.aloadN X0.here hx rfl (hb hby d3_0) rfl rfl k) ?_
  show own_goW _ _ _ _ _ _ _ _ _ _ (s₁.setTop (mkF m 1 #[.val (.ref a1), .val (.ref a2), .val (.int (0 : Int32)), .val (.int (0 : Int32)), .val .null, .unset] [(.ref a1)]))
  obtain ⟨T440, X440, e440, st440⟩ := initO X0 hx hZ hown (ow hw 15 rfl) (ow hw 16 rfl) (ow hw 17 rfl) e0 (g := (mkF m 1 #[.val (.ref a1), .val (.ref a2), .val (.int (0 : Int32)), .val (.int (0 : Int32)), .val .null, .unset] [(.ref a1)])) rfl (by rw [hml]; rfl) rfl (hb hby d3_1) (by decide) (W := 0) (by show 2 * 0 + _ ≤ _; exact Nat.le_of_eq rfl) (by decide)
  refine oT st440 ?_
  show own_goW _ _ _ _ _ _ _ _ _ _ (T440.setTop (mkF m 4 #[.val (.ref a1), .val (.ref a2), .val (.int (0 : Int32)), .val (.int (0 : Int32)), .val .null, .unset] []))
  refine oT (fun _ k => XS.iloadN X440.here hx rfl (hb hby d3_4) rfl k) ?_
  show own_goW _ _ _ _ _ _ _ _ _ _ (T440.setTop (mkF m 5 #[.val (.ref a1), .val (.ref a2), .val (.int (0 : Int32)), .val (.int (0 : Int32)), .val .null, .unset] [(.int (0 : Int32))]))
  refine oT (fun _ k => XS.ifNo X440.here hx rfl (hb hby d3_5) rfl (by decide) k) ?_
  refine oT (fun _ k => XS.aloadN X440.here hx rfl (hb hby d3_8) rfl rfl k) ?_
  show own_goW _ _ _ _ _ _ _ _ _ _ (T440.setTop (mkF m 9 #[.val (.ref a1), .val (.ref a2), .val (.int (0 : Int32)), .val (.int (0 : Int32)), .val .null, .unset] [(.ref a1)]))
  obtain ⟨b441, T441, h441, k441, d441, kd441, X441, e441, E441, hS441, hk441, hZ441, hown441, A441, Cd441, U441, V441, lta441, ltb441, CH441, Li441, sfe441, st441⟩ := ldcCH X440 hx hZ hown (ow hw 18 rfl) wS e440 hS0 hk0 hEL (by decide) C0.1 (vs := []) (z := (0 : Int32)) ⟨by decide +kernel, by decide +kernel⟩ (by decide) (by decide) (g := (mkF m 9 #[.val (.ref a1), .val (.ref a2), .val (.int (0 : Int32)), .val (.int (0 : Int32)), .val .null, .unset] [(.ref a1)])) rfl (hb hby d3_9) (n := 0) (by decide +kernel) (by decide) (by decide) (by decide)
  have O441 := O0.ext E441
  have K441 := K0.ext E441
  have C441 := C0.trans CH441
  have f443 := (E_a1.ext E441)
  have f444 := (F_a1_value.ext E441)
  have ne442 := sfe441 a1 (own_safeS hZ441.alike f443 f444)
  refine oT st441 ?_
  show own_goW _ _ _ _ _ _ _ _ _ _ (T441.setTop (mkF m 11 #[.val (.ref a1), .val (.ref a2), .val (.int (0 : Int32)), .val (.int (0 : Int32)), .val .null, .unset] [(.ref b441), (.ref a1)]))
  obtain ⟨T445, X445, e445, st445⟩ := getF X441 hx hZ441 hown441 (host := "") (Or.inl (ow hw 24 rfl)) Via.refl e441 U441 (g := (mkF m 11 #[.val (.ref a1), .val (.ref a2), .val (.int (0 : Int32)), .val (.int (0 : Int32)), .val .null, .unset] [(.ref b441), (.ref a1)])) rfl rfl (hb hby d3_11)
  refine oT st445 ?_
  show own_goW _ _ _ _ _ _ _ _ _ _ (T445.setTop (mkF m 14 #[.val (.ref a1), .val (.ref a2), .val (.int (0 : Int32)), .val (.int (0 : Int32)), .val .null, .unset] [(.ref d441), (.ref a1)]))
  obtain ⟨T446, h446, X446, e446, W446, st446⟩ := putF X445 hx hZ441 hown441 (host := "") (Or.inl (ow hw 24 rfl)) Via.refl e445 f444 f443 (Or.inr ⟨(ow hw 20 rfl), rfl, hnm⟩) (ow hw 5 rfl) (ty := (.array .byte)) (by decide) rfl rfl (g := (mkF m 14 #[.val (.ref a1), .val (.ref a2), .val (.int (0 : Int32)), .val (.int (0 : Int32)), .val .null, .unset] [(.ref d441), (.ref a1)])) rfl rfl (hb hby d3_14)
  have N446 := Fr.snoc X446 N0 ge_a1
  have sf447 : Safe Z consts_1 T441.vm h441 a1 := (own_safeS hZ441.alike f443 f444)
  have Cw447 := C441.trans (CHr.wr W446 sf447 C441.1)
  have hkw447 := Nat.le_trans hk441 (Keep.of_wr W446).1
  have O447 := O441.wr W446 ge_a1
  have K447 := K441.wr W446 (Or.inl (List.mem_of_getElem? (i := 0) rfl))
  have sg447 := Safe.wr W446 sf447 C441.1 sf447
  have F446 := f444.same W446
  refine oT st446 ?_
  show own_goW _ _ _ _ _ _ _ _ _ _ (T446.setTop (mkF m 17 #[.val (.ref a1), .val (.ref a2), .val (.int (0 : Int32)), .val (.int (0 : Int32)), .val .null, .unset] []))
  refine oT (fun _ k => XS.aloadN X446.here hx rfl (hb hby d3_17) rfl rfl k) ?_
  show own_goW _ _ _ _ _ _ _ _ _ _ (T446.setTop (mkF m 18 #[.val (.ref a1), .val (.ref a2), .val (.int (0 : Int32)), .val (.int (0 : Int32)), .val .null, .unset] [(.ref a1)]))
  have f449 := (f443.wr W446)
  obtain ⟨b448, T448, h448, k448, d448, kd448, X448, e448, E448, hS448, hk448, hZ448, hown448, A448, Cd448, U448, V448, lta448, ltb448, CH448, Li448, sfe448, st448⟩ := ldcCH X446 hx hZ441 hown441 (ow hw 18 rfl) wS e446 hS441 hkw447 hEL (by decide) Cw447.1 (vs := []) (z := (0 : Int32)) ⟨by decide +kernel, by decide +kernel⟩ (by decide) (by decide) (g := (mkF m 18 #[.val (.ref a1), .val (.ref a2), .val (.int (0 : Int32)), .val (.int (0 : Int32)), .val .null, .unset] [(.ref a1)])) rfl (hb hby d3_18) (n := 0) (by decide +kernel) (by decide) (by decide) (by decide)
  have O448 := O447.ext E448
  have K448 := K447.ext E448
  have C448 := Cw447.trans CH448
  have f451 := (CH448.safe f449.lt sg447)
  have ne450 := sfe448 a1 f451
  refine oT st448 ?_
  show own_goW _ _ _ _ _ _ _ _ _ _ (T448.setTop (mkF m 20 #[.val (.ref a1), .val (.ref a2), .val (.int (0 : Int32)), .val (.int (0 : Int32)), .val .null, .unset] [(.ref b448), (.ref a1)]))
  obtain ⟨T452, X452, e452, st452⟩ := getF X448 hx hZ448 hown448 (host := "") (Or.inl (ow hw 25 rfl)) Via.refl e448 Cd448 (g := (mkF m 20 #[.val (.ref a1), .val (.ref a2), .val (.int (0 : Int32)), .val (.int (0 : Int32)), .val .null, .unset] [(.ref b448), (.ref a1)])) rfl rfl (hb hby d3_20)
  refine oT st452 ?_
  show own_goW _ _ _ _ _ _ _ _ _ _ (T452.setTop (mkF m 23 #[.val (.ref a1), .val (.ref a2), .val (.int (0 : Int32)), .val (.int (0 : Int32)), .val .null, .unset] [(.int (0 : Int32)), (.ref a1)]))
  have f454 := (((F_a1_coder.ext E441).other W446 (Or.inr (slot_ne (Or.inr (ow hw 21 rfl)) (Or.inr (ow hw 20 rfl)) (by decide) (t := .byte) (t' := (.array .byte)) (by decide) (by decide)))).ext E448)
  have f455 := (f449.ext E448)
  obtain ⟨T453, h453, X453, e453, W453, st453⟩ := putF X452 hx hZ448 hown448 (host := "") (Or.inl (ow hw 25 rfl)) Via.refl e452 f454 f455 (Or.inr ⟨(ow hw 21 rfl), rfl, hnm⟩) (ow hw 5 rfl) (ty := .byte) (by decide) rfl rfl (g := (mkF m 23 #[.val (.ref a1), .val (.ref a2), .val (.int (0 : Int32)), .val (.int (0 : Int32)), .val .null, .unset] [(.int (0 : Int32)), (.ref a1)])) rfl rfl (hb hby d3_23)
  have N453 := Fr.snoc X453 N446 ge_a1
  have sf456 : Safe Z consts_1 T448.vm h448 a1 := f451
  have Cw456 := C448.trans (CHr.wr W453 sf456 C448.1)
  have hkw456 := Nat.le_trans hk448 (Keep.of_wr W453).1
  have O456 := O448.wr W453 ge_a1
  have K456 := K448.wr W453 (Or.inl (List.mem_of_getElem? (i := 0) rfl))
  have sg456 := Safe.wr W453 sf456 C448.1 sf456
  have F453 := f454.same W453
  refine oT st453 ?_
  show own_goW _ _ _ _ _ _ _ _ _ _ (T453.setTop (mkF m 26 #[.val (.ref a1), .val (.ref a2), .val (.int (0 : Int32)), .val (.int (0 : Int32)), .val .null, .unset] []))
  have f457 := ((F446.ext E448).other W453 (Or.inr (slot_ne (Or.inr (ow hw 20 rfl)) (Or.inr (ow hw 21 rfl)) (by decide) (t := (.array .byte)) (t' := .byte) (by decide) (by decide))))
  have f458 := (((V441.other W446 (Ne.symm ne442.2)).ext E448).other W453 (Ne.symm ne442.2))
  exact own_ret0W X453 hx hlk hS448 hkw456 hZ448 hEL Cw456 e453 hret (hb hby d3_26) (by decide) (by decide) (by rw [e453]; exact ⟨rfl, N453, K456, _, _, f457, f458⟩)
theorem own_ef_rm_s1e (m : MethodId) (a1 : Addr) (a2 : Addr) : entryFrame m #[(.ref a1), (.ref a2)] 2 = mkF m 0 #[.val (.ref a1), .val (.ref a2)] [] := by first | (simp [entryFrame, mkF, argsToLocals, Value.category]; done) | rfl
set_option maxRecDepth 65536 in
set_option maxHeartbeats 40000000 in
theorem rm_s1e (l : Launch) (Z : State) (a0 : Array Value) (hw : ∀ d ∈ tables_1, d.before a0 Z = true) (a1 a2 : Addr) (k2 : ClassId) (h0 : Heap) (n0 : Nat) (O0 : Old Z n0 h0) (ge_a1 : n0 ≤ a1) (E_a1 : Exa Z h0 a1 "java/lang/String") (F_a1_value : Fld Z h0 a1 "java/lang/String" "value" "[B" .null) (F_a1_coder : Fld Z h0 a1 "java/lang/String" "coder" "B" (.int (0 : Int32))) (V_a2 : Arv Z h0 a2 k2 .char 0 [] (.int (0 : Int32))) :
    own_MetW l Z consts_1 (⟨"java/lang/String", "<init>", "([C)V"⟩ : MethodName) jdk_42_method_3_code 2 none [] ({ frames := 2, cells := 4, slots := 8, locals := 31 } : Room) #[(.ref a1), (.ref a2)] h0 (fun v h L => v = none ∧ Fr n0 L ∧ Keep h0 h [a1] ∧ ∃ t k, Fld Z h a1 "java/lang/String" "value" "[B" (.ref t) ∧ Arv Z h t k .byte (0 : Int32) [] (.int (0 : Int32))) := by
  refine own_bodyW own_pn_2 ?_
  intro p e s m below meth c s₁ hx hby hml hown hnm hret hlk X0 hZ e0 C0 hS0
  have hk0 : h0.size ≤ h0.size := Nat.le_refl _
  have hEL := own_EW hw
  have wS := own_sA hw
  replace hown : s.vm.findClass "java/lang/String" = some m.cls := hown
  have N0 := Fr.nil n0
  have K0 := Keep.refl h0 [a1]
  refine oT (fun _ k => castTop (own_ef_rm_s1e m a1 a2) k) ?_
  show own_goW _ _ _ _ _ _ _ _ _ _ (s₁.setTop (mkF m 0 #[.val (.ref a1), .val (.ref a2)] []))
  refine oT (fun _ k => XS.aloadN X0.here hx rfl (hb hby d2_0) rfl rfl k) ?_
  refine oT (fun _ k => XS.aloadN X0.here hx rfl (hb hby d2_1) rfl rfl k) ?_
  refine oT (fun _ k => XS.iconst X0.here hx rfl (hb hby d2_2) k) ?_
  refine oT (fun _ k => XS.aloadN X0.here hx rfl (hb hby d2_3) rfl rfl k) ?_
  show own_goW _ _ _ _ _ _ _ _ _ _ (s₁.setTop (mkF m 4 #[.val (.ref a1), .val (.ref a2)] [(.ref a2), (.int (0 : Int32)), (.ref a2), (.ref a1)]))
  refine oT (own_len X0 hx hZ e0 V_a2 (g := (mkF m 4 #[.val (.ref a1), .val (.ref a2)] [(.ref a2), (.int (0 : Int32)), (.ref a2), (.ref a1)])) rfl rfl (hb hby d2_4)) ?_
  show own_goW _ _ _ _ _ _ _ _ _ _ (s₁.setTop (mkF m 5 #[.val (.ref a1), .val (.ref a2)] [(.int (0 : Int32)), (.int (0 : Int32)), (.ref a2), (.ref a1)]))
  refine oT (fun _ k => XS.aconstNull X0.here hx rfl (hb hby d2_5) k) ?_
  show own_goW _ _ _ _ _ _ _ _ _ _ (s₁.setTop (mkF m 6 #[.val (.ref a1), .val (.ref a2)] [.null, (.int (0 : Int32)), (.int (0 : Int32)), (.ref a2), (.ref a1)]))
  obtain ⟨v459, T459, L459, X459, hS459, hZ459, hown459, CH459, hQ459, st459⟩ := own_callNW X0 hx hZ hS0 hk0 hEL C0.1 (argsL := [(.ref a2), (.int (0 : Int32)), (.int (0 : Int32)), .null]) (rest := []) (rm_s4e l Z a0 hw a1 a2 h0 n0 O0 ge_a1 E_a1 F_a1_value F_a1_coder) rfl hown (ow hw 11 rfl) (ow hw 12 rfl) (ow hw 6 rfl) (ow hw 14 rfl) (by decide) e0 (g := (mkF m 6 #[.val (.ref a1), .val (.ref a2)] [.null, (.int (0 : Int32)), (.int (0 : Int32)), (.ref a2), (.ref a1)])) rfl (by rw [hml]; rfl) (lenOf own_pd__28_5bCIILjava_2flang_2fVoid_3b_29V rfl) rfl (W := 0) (by show 2 * 0 + _ ≤ _; exact Nat.le_of_eq rfl) (hb hby d2_6) (by decide) (by decide) (by decide) (by decide)
  obtain ⟨rfl, Nq459, Kq459, t459, kt459, U459, Vt459⟩ := hQ459
  have N459 := Fr.app N0 Nq459
  have O459 := O0.keep Kq459 (allS ge_a1 all0)
  have K459 := K0.trans Kq459 (allS (Or.inl (List.mem_of_getElem? (i := 0) rfl)) all0)
  have C459 := C0.trans CH459
  have hk459 := Nat.le_refl T459.heap.size
  refine oT st459 ?_
  show own_goW _ _ _ _ _ _ _ _ _ _ (T459.setTop (mkF m 9 #[.val (.ref a1), .val (.ref a2)] []))
  exact own_ret0W X459 hx hlk hS459 hk459 hZ459 hEL C459 rfl hret (hb hby d2_9) (by decide) (by decide) ⟨rfl, N459, K459, _, _, U459, Vt459⟩
theorem own_pn_0 : plainFor x = true := plainFor_of_name (show plainName "com/example/lynceus/lynceus/probe/HeaderValueKeepablePinLaw" = true by first | (simp [plainName, overriddenIn]; done) | decide +kernel)
theorem own_pd__28_5bC_29V : parseMethodDescriptor "([C)V" = some ⟨[(.array .char)], none⟩ := by decide +kernel
theorem own_pd__28Ljava_2flang_2fString_3b_29Ljava_2flang_2fString_3b : parseMethodDescriptor "(Ljava/lang/String;)Ljava/lang/String;" = some ⟨[(.object "java/lang/String")], some (.object "java/lang/String")⟩ := by decide +kernel
theorem own_pd__28C_29Z : parseMethodDescriptor "(C)Z" = some ⟨[.char], some .boolean⟩ := by decide +kernel
theorem own_pd__28Ljava_2flang_2fObject_3b_29Z : parseMethodDescriptor "(Ljava/lang/Object;)Z" = some ⟨[(.object "java/lang/Object")], some .boolean⟩ := by decide +kernel
theorem own_pd__28IZ_29C : parseMethodDescriptor "(IZ)C" = some ⟨[.int, .boolean], some .char⟩ := by decide +kernel
theorem own_ef_rm0 (m : MethodId) (p0 : Int32) (p1 : Int32) (p2 : Int32) (p3 : Int32) (p4 : Int32) : entryFrame m #[(.int p0), (.int p1), (.int p2), (.int p3), (.int p4)] maxLocals = mkF m 0 #[.val (.int p0), .val (.int p1), .val (.int p2), .val (.int p3), .val (.int p4), .unset, .unset, .unset, .unset, .unset, .unset, .unset, .unset] [] := by first | (simp [entryFrame, mkF, argsToLocals, Value.category, maxLocals]; done) | rfl
set_option maxRecDepth 65536 in
set_option maxHeartbeats 40000000 in
theorem rm0 (l : Launch) (Z : State) (a0 : Array Value) (hw : ∀ d ∈ tables_1, d.before a0 Z = true) (ws : List Jvm.Cond) (p0 p1 p2 p3 p4 : Int32) (zC : Int32) (vS : Value) (h0 : Heap) (n0 : Nat) (O0 : Old Z n0 h0) (hS : own_S Z zC vS) :
    own_MetW l Z consts_1 x code maxLocals ret ws room_1 #[(.int p0), (.int p1), (.int p2), (.int p3), (.int p4)] h0 (fun v h L => v = some (.int 1) ∧ Fr n0 L) := by
  refine own_bodyW own_pn_0 ?_
  intro p e s m below meth c s₁ hx hby hml hown hnm hret hlk X0 hZ e0 C0 hS0
  have hk0 : h0.size ≤ h0.size := Nat.le_refl _
  have hEL := own_EW hw
  have wS := own_sA hw
  replace hown : s.vm.findClass "com/example/lynceus/lynceus/probe/HeaderValueKeepablePinLaw" = some m.cls := hown
  have N0 := Fr.nil n0
  have K0 := Keep.refl h0 []
  refine oT (fun _ k => castTop (own_ef_rm0 m p0 p1 p2 p3 p4) k) ?_
  show own_goW _ _ _ _ _ _ _ _ _ _ (s₁.setTop (mkF m 0 #[.val (.int p0), .val (.int p1), .val (.int p2), .val (.int p3), .val (.int p4), .unset, .unset, .unset, .unset, .unset, .unset, .unset, .unset] []))
  have tail75 : ∀ (Tt : State) (lc : List Loc) (z5 n6 c0 c1 c2 : Int32), Stand p l e room_1 (s.setVm s.vm) m #[(.int p0), (.int p1), (.int p2), (.int p3), (.int p4)] below meth c Tt lc 0 0 → Tt.heap = h0 → Fr n0 lc → (n6 = (0 : Int32) ∨ n6 = (1 : Int32) ∨ n6 = (2 : Int32) ∨ n6 = (3 : Int32)) → own_ch c0 → own_ch c1 → own_ch c2 → own_goW Z consts_1 p e below s h0 (fun v h L => v = some (.int 1) ∧ Fr n0 L) room_1.cells room_1.slots (Tt.setTop (mkF m 75 #[.val (.int p0), .val (.int p1), .val (.int p2), .val (.int p3), .val (.int p4), .val (.int z5), .val (.int n6), .val (.int c0), .val (.int c1), .val (.int c2), .unset, .unset, .unset] [])) := by
    intro Tt lc z5 n6 c0 c1 c2 Xt et Nt hn6 hc0 hc1 hc2
    show own_goW _ _ _ _ _ _ _ _ _ _ (Tt.setTop (mkF m 75 #[.val (.int p0), .val (.int p1), .val (.int p2), .val (.int p3), .val (.int p4), .val (.int z5), .val (.int n6), .val (.int c0), .val (.int c1), .val (.int c2), .unset, .unset, .unset] []))
    refine oT (fun _ k => XS.iload Xt.here hx rfl (hb hby at_75) rfl k) ?_
    show own_goW _ _ _ _ _ _ _ _ _ _ (Tt.setTop (mkF m 77 #[.val (.int p0), .val (.int p1), .val (.int p2), .val (.int p3), .val (.int p4), .val (.int z5), .val (.int n6), .val (.int c0), .val (.int c1), .val (.int c2), .unset, .unset, .unset] [(.int z5)]))
    by_cases hc460 : z5 = (0 : Int32)
    · skip
      refine oT (fun _ k => XS.ifYes Xt.here hx rfl (pc0 := 77) (pc' := 89) rfl (hb hby at_77) rfl (XT.i0_eq_t hc460) (by decide) (by decide) k) ?_
      show own_goW _ _ _ _ _ _ _ _ _ _ (Tt.setTop (mkF m 89 #[.val (.int p0), .val (.int p1), .val (.int p2), .val (.int p3), .val (.int p4), .val (.int z5), .val (.int n6), .val (.int c0), .val (.int c1), .val (.int c2), .unset, .unset, .unset] []))
      rcases hn6 with q | q | q | q
      · skip
        show own_goW _ _ _ _ _ _ _ _ _ _ (Tt.setTop (mkF m 89 #[.val (.int p0), .val (.int p1), .val (.int p2), .val (.int p3), .val (.int p4), .val (.int z5), .val (.int n6), .val (.int c0), .val (.int c1), .val (.int c2), .unset, .unset, .unset] []))
        rw [q]
        show own_goW _ _ _ _ _ _ _ _ _ _ (Tt.setTop (mkF m 89 #[.val (.int p0), .val (.int p1), .val (.int p2), .val (.int p3), .val (.int p4), .val (.int z5), .val (.int (0 : Int32)), .val (.int c0), .val (.int c1), .val (.int c2), .unset, .unset, .unset] []))
        refine oT (fun _ k => XS.iload Xt.here hx rfl (hb hby at_89) rfl k) ?_
        show own_goW _ _ _ _ _ _ _ _ _ _ (Tt.setTop (mkF m 91 #[.val (.int p0), .val (.int p1), .val (.int p2), .val (.int p3), .val (.int p4), .val (.int z5), .val (.int (0 : Int32)), .val (.int c0), .val (.int c1), .val (.int c2), .unset, .unset, .unset] [(.int (0 : Int32))]))
        refine oT (fun _ k => XS.ifNo Xt.here hx rfl (hb hby at_91) rfl (by decide) k) ?_
        show own_goW _ _ _ _ _ _ _ _ _ _ (Tt.setTop (mkF m 94 #[.val (.int p0), .val (.int p1), .val (.int p2), .val (.int p3), .val (.int p4), .val (.int z5), .val (.int (0 : Int32)), .val (.int c0), .val (.int c1), .val (.int c2), .unset, .unset, .unset] []))
        obtain ⟨T461, h461, X461, e461, E461, A461, D461, -, st461⟩ := newO Xt hx hZ hown (ow hw 4 rfl) (ow hw 5 rfl) (ow hw 6 rfl) et (g := (mkF m 94 #[.val (.int p0), .val (.int p1), .val (.int p2), .val (.int p3), .val (.int p4), .val (.int z5), .val (.int (0 : Int32)), .val (.int c0), .val (.int c1), .val (.int c2), .unset, .unset, .unset] [])) rfl (hb hby at_94) (by decide) (by decide)
        obtain ⟨b461, g461⟩ : ∃ z, z = h0.size := ⟨_, rfl⟩
        rw [← g461] at A461 D461 st461
        have ge_b461 : n0 ≤ b461 := by rw [g461]; exact own_osz O0
        have sz_b461 : h0.size ≤ b461 := by rw [g461]; exact K0.1
        have O461 := O0.ext E461
        have K461 := K0.ext E461
        have Ce461 := C0.trans (CHr.ext E461 C0.1)
        have hke461 := Nat.le_trans hk0 E461.1
        refine oT st461 ?_
        show own_goW _ _ _ _ _ _ _ _ _ _ (T461.setTop (mkF m 97 #[.val (.int p0), .val (.int p1), .val (.int p2), .val (.int p3), .val (.int p4), .val (.int z5), .val (.int (0 : Int32)), .val (.int c0), .val (.int c1), .val (.int c2), .unset, .unset, .unset] [(.ref b461)]))
        refine oT (fun _ k => XS.dup X461.here hx rfl (hb hby at_97) rfl rfl k) ?_
        refine oT (fun _ k => XS.iconst X461.here hx rfl (hb hby at_98) k) ?_
        show own_goW _ _ _ _ _ _ _ _ _ _ (T461.setTop (mkF m 99 #[.val (.int p0), .val (.int p1), .val (.int p2), .val (.int p3), .val (.int p4), .val (.int z5), .val (.int (0 : Int32)), .val (.int c0), .val (.int c1), .val (.int c2), .unset, .unset, .unset] [(.int (0 : Int32)), (.ref b461), (.ref b461)]))
        obtain ⟨T462, h462, k462, b462, X462, e462, g462, E462, V462, st462⟩ := own_newP X461 hx hZ (aty := .char) (ow hw 7 rfl) e461 (g := (mkF m 99 #[.val (.int p0), .val (.int p1), .val (.int p2), .val (.int p3), .val (.int p4), .val (.int z5), .val (.int (0 : Int32)), .val (.int c0), .val (.int c1), .val (.int c2), .unset, .unset, .unset] [(.int (0 : Int32)), (.ref b461), (.ref b461)])) rfl (hb hby at_99) rfl (by decide) (cap := 0) (by decide) (by decide) (by decide) (by decide)
        replace V462 : Arv Z h462 b462 k462 .char (0 : Int32) [] (.int (0 : Int32)) := V462
        have ge_b462 : n0 ≤ b462 := by rw [g462]; exact own_osz O461
        have sz_b462 : h0.size ≤ b462 := by rw [g462]; exact K461.1
        have ne_b461_b462 : b461 ≠ b462 := (fun q => absurd A461.lt (by rw [q, g462]; exact Nat.lt_irrefl _))
        have O462 := O461.ext E462
        have K462 := K461.ext E462
        have Ce462 := Ce461.trans (CHr.ext E462 Ce461.1)
        have hke462 := Nat.le_trans hke461 E462.1
        refine oT st462 ?_
        show own_goW _ _ _ _ _ _ _ _ _ _ (T462.setTop (mkF m 101 #[.val (.int p0), .val (.int p1), .val (.int p2), .val (.int p3), .val (.int p4), .val (.int z5), .val (.int (0 : Int32)), .val (.int c0), .val (.int c1), .val (.int c2), .unset, .unset, .unset] [(.ref b462), (.ref b461), (.ref b461)]))
        have f464 := (A461.ext E462)
        have f465 := ((D461 (Or.inr (ow hw 20 rfl)) (ty := (.array .byte)) (by decide)).ext E462)
        have f466 := ((D461 (Or.inr (ow hw 21 rfl)) (ty := .byte) (by decide)).ext E462)
        obtain ⟨v463, T463, L463, X463, hS463, hZ463, hown463, CH463, hQ463, st463⟩ := own_callNW X462 hx hZ hS0 hke462 hEL Ce462.1 (argsL := [(.ref b462)]) (rest := [(.ref b461)]) (rm_s1e l Z a0 hw b461 b462 k462 h462 n0 O462 ge_b461 f464 f465 f466 V462) rfl hown (ow hw 8 rfl) (ow hw 9 rfl) (ow hw 6 rfl) (ow hw 10 rfl) (by decide) e462 (g := (mkF m 101 #[.val (.int p0), .val (.int p1), .val (.int p2), .val (.int p3), .val (.int p4), .val (.int z5), .val (.int (0 : Int32)), .val (.int c0), .val (.int c1), .val (.int c2), .unset, .unset, .unset] [(.ref b462), (.ref b461), (.ref b461)])) rfl (by rw [hml]; rfl) (lenOf own_pd__28_5bC_29V rfl) rfl (W := 1) (by show 2 * 0 + _ ≤ _; exact Nat.le_of_eq rfl) (hb hby at_101) (by decide) (by decide) (by decide) (by decide)
        obtain ⟨rfl, Nq463, Kq463, t463, kt463, U463, Vt463⟩ := hQ463
        have N463 := Fr.app Nt Nq463
        have O463 := O462.keep Kq463 (allS ge_b461 all0)
        have K463 := K462.trans Kq463 (allS (Or.inr sz_b461) all0)
        have C463 := Ce462.trans CH463
        have hk463 := Nat.le_refl T463.heap.size
        refine oT st463 ?_
        show own_goW _ _ _ _ _ _ _ _ _ _ (T463.setTop (mkF m 104 #[.val (.int p0), .val (.int p1), .val (.int p2), .val (.int p3), .val (.int p4), .val (.int z5), .val (.int (0 : Int32)), .val (.int c0), .val (.int c1), .val (.int c2), .unset, .unset, .unset] [(.ref b461)]))
        refine oT (fun _ k => XS.astore X463.here hx rfl (hb hby at_104) rfl rfl (l' := #[.val (.int p0), .val (.int p1), .val (.int p2), .val (.int p3), .val (.int p4), .val (.int z5), .val (.int (0 : Int32)), .val (.int c0), .val (.int c1), .val (.int c2), .val (.ref b461), .unset, .unset]) rfl k) ?_
        refine oT (fun _ k => XS.iconst X463.here hx rfl (hb hby at_106) k) ?_
        refine oT (fun _ k => XS.istore X463.here hx rfl (hb hby at_107) rfl (l' := #[.val (.int p0), .val (.int p1), .val (.int p2), .val (.int p3), .val (.int p4), .val (.int z5), .val (.int (0 : Int32)), .val (.int c0), .val (.int c1), .val (.int c2), .val (.ref b461), .val (.int (0 : Int32)), .unset]) rfl k) ?_
        refine oT (fun _ k => XS.goto X463.here hx rfl (pc0 := 109) (pc' := 269) rfl (hb hby at_109) (by decide) (by decide) k) ?_
        refine oT (fun _ k => XS.aload X463.here hx rfl (hb hby at_269) rfl rfl k) ?_
        show own_goW _ _ _ _ _ _ _ _ _ _ (T463.setTop (mkF m 271 #[.val (.int p0), .val (.int p1), .val (.int p2), .val (.int p3), .val (.int p4), .val (.int z5), .val (.int (0 : Int32)), .val (.int c0), .val (.int c1), .val (.int c2), .val (.ref b461), .val (.int (0 : Int32)), .unset] [(.ref b461)]))
        have f468 := (f464.keep Kq463)
        obtain ⟨v467, T467, L467, X467, hQ467, st467⟩ := own_callS X463 hx hZ463 (argsL := [(.ref b461)]) (rest := []) (rm_kpE l Z a0 hw b461 t463 kt463 T463.heap n0 O463 f468 U463 Vt463) hown463 (ow hw 26 rfl) (ow hw 27 rfl) (ow hw 28 rfl) (ow hw 29 rfl) (by decide) rfl (g := (mkF m 271 #[.val (.int p0), .val (.int p1), .val (.int p2), .val (.int p3), .val (.int p4), .val (.int z5), .val (.int (0 : Int32)), .val (.int c0), .val (.int c1), .val (.int c2), .val (.ref b461), .val (.int (0 : Int32)), .unset] [(.ref b461)])) rfl (by rw [hml]; rfl) (lenOf own_pd__28Ljava_2flang_2fString_3b_29Ljava_2flang_2fString_3b rfl) rfl (W := 0) (by show 2 * 0 + _ ≤ _; exact Nat.le_of_eq rfl) (hb hby at_271) (by decide) (by decide) (by decide) (by decide)
        obtain ⟨rfl, Nq467, eq467⟩ := hQ467
        have N467 := Fr.app N463 Nq467
        refine oT st467 ?_
        show own_goW _ _ _ _ _ _ _ _ _ _ (T467.setTop (mkF m 274 #[.val (.int p0), .val (.int p1), .val (.int p2), .val (.int p3), .val (.int p4), .val (.int z5), .val (.int (0 : Int32)), .val (.int c0), .val (.int c1), .val (.int c2), .val (.ref b461), .val (.int (0 : Int32)), .unset] [.null]))
        refine oT (fun _ k => XS.astore X467.here hx rfl (hb hby at_274) rfl rfl (l' := #[.val (.int p0), .val (.int p1), .val (.int p2), .val (.int p3), .val (.int p4), .val (.int z5), .val (.int (0 : Int32)), .val (.int c0), .val (.int c1), .val (.int c2), .val (.ref b461), .val (.int (0 : Int32)), .val .null]) rfl k) ?_
        refine oT (fun _ k => XS.iload X467.here hx rfl (hb hby at_276) rfl k) ?_
        show own_goW _ _ _ _ _ _ _ _ _ _ (T467.setTop (mkF m 278 #[.val (.int p0), .val (.int p1), .val (.int p2), .val (.int p3), .val (.int p4), .val (.int z5), .val (.int (0 : Int32)), .val (.int c0), .val (.int c1), .val (.int c2), .val (.ref b461), .val (.int (0 : Int32)), .val .null] [(.int (0 : Int32))]))
        refine oT (fun _ k => XS.ifNo X467.here hx rfl (hb hby at_278) rfl (by decide) k) ?_
        refine oT (fun _ k => XS.aload X467.here hx rfl (hb hby at_281) rfl rfl k) ?_
        show own_goW _ _ _ _ _ _ _ _ _ _ (T467.setTop (mkF m 283 #[.val (.int p0), .val (.int p1), .val (.int p2), .val (.int p3), .val (.int p4), .val (.int z5), .val (.int (0 : Int32)), .val (.int c0), .val (.int c1), .val (.int c2), .val (.ref b461), .val (.int (0 : Int32)), .val .null] [.null]))
        refine oT (fun _ k => XS.ifnonnullNo X467.here hx rfl (hb hby at_283) rfl k) ?_
        refine oT (fun _ k => XS.iconst X467.here hx rfl (hb hby at_286) k) ?_
        refine oT (fun _ k => XS.goto X467.here hx rfl (pc0 := 287) (pc' := 291) rfl (hb hby at_287) (by decide) (by decide) k) ?_
        show own_goW _ _ _ _ _ _ _ _ _ _ (T467.setTop (mkF m 291 #[.val (.int p0), .val (.int p1), .val (.int p2), .val (.int p3), .val (.int p4), .val (.int z5), .val (.int (0 : Int32)), .val (.int c0), .val (.int c1), .val (.int c2), .val (.ref b461), .val (.int (0 : Int32)), .val .null] [(.int (1 : Int32))]))
        exact own_retNW X467 hx hlk hS463 hk463 hZ463 hEL C463 eq467 (t := .boolean) hret (by simp) rfl (hb hby at_291) (by decide) (by decide) (⟨rfl, N467⟩)
      · skip
        show own_goW _ _ _ _ _ _ _ _ _ _ (Tt.setTop (mkF m 89 #[.val (.int p0), .val (.int p1), .val (.int p2), .val (.int p3), .val (.int p4), .val (.int z5), .val (.int n6), .val (.int c0), .val (.int c1), .val (.int c2), .unset, .unset, .unset] []))
        rw [q]
        show own_goW _ _ _ _ _ _ _ _ _ _ (Tt.setTop (mkF m 89 #[.val (.int p0), .val (.int p1), .val (.int p2), .val (.int p3), .val (.int p4), .val (.int z5), .val (.int (1 : Int32)), .val (.int c0), .val (.int c1), .val (.int c2), .unset, .unset, .unset] []))
        refine oT (fun _ k => XS.iload Xt.here hx rfl (hb hby at_89) rfl k) ?_
        show own_goW _ _ _ _ _ _ _ _ _ _ (Tt.setTop (mkF m 91 #[.val (.int p0), .val (.int p1), .val (.int p2), .val (.int p3), .val (.int p4), .val (.int z5), .val (.int (1 : Int32)), .val (.int c0), .val (.int c1), .val (.int c2), .unset, .unset, .unset] [(.int (1 : Int32))]))
        refine oT (fun _ k => XS.ifYes Xt.here hx rfl (pc0 := 91) (pc' := 112) rfl (hb hby at_91) rfl (by decide) (by decide) (by decide) k) ?_
        refine oT (fun _ k => XS.iload Xt.here hx rfl (hb hby at_112) rfl k) ?_
        refine oT (fun _ k => XS.iconst Xt.here hx rfl (hb hby at_114) k) ?_
        show own_goW _ _ _ _ _ _ _ _ _ _ (Tt.setTop (mkF m 115 #[.val (.int p0), .val (.int p1), .val (.int p2), .val (.int p3), .val (.int p4), .val (.int z5), .val (.int (1 : Int32)), .val (.int c0), .val (.int c1), .val (.int c2), .unset, .unset, .unset] [(.int (1 : Int32)), (.int (1 : Int32))]))
        refine oT (fun _ k => XS.icmpNo Xt.here hx rfl (hb hby at_115) rfl (by decide) k) ?_
        refine oT (fun _ k => XS.iconst Xt.here hx rfl (hb hby at_118) k) ?_
        show own_goW _ _ _ _ _ _ _ _ _ _ (Tt.setTop (mkF m 119 #[.val (.int p0), .val (.int p1), .val (.int p2), .val (.int p3), .val (.int p4), .val (.int z5), .val (.int (1 : Int32)), .val (.int c0), .val (.int c1), .val (.int c2), .unset, .unset, .unset] [(.int (1 : Int32))]))
        obtain ⟨T469, h469, k469, b469, X469, e469, g469, E469, V469, st469⟩ := own_newP Xt hx hZ (aty := .char) (ow hw 7 rfl) et (g := (mkF m 119 #[.val (.int p0), .val (.int p1), .val (.int p2), .val (.int p3), .val (.int p4), .val (.int z5), .val (.int (1 : Int32)), .val (.int c0), .val (.int c1), .val (.int c2), .unset, .unset, .unset] [(.int (1 : Int32))])) rfl (hb hby at_119) rfl (by decide) (cap := 1) (by decide) (by decide) (by decide) (by decide)
        replace V469 : Arv Z h469 b469 k469 .char (1 : Int32) [(.int (0 : Int32))] (.int (0 : Int32)) := V469
        have ge_b469 : n0 ≤ b469 := by rw [g469]; exact own_osz O0
        have sz_b469 : h0.size ≤ b469 := by rw [g469]; exact K0.1
        have O469 := O0.ext E469
        have K469 := K0.ext E469
        have Ce469 := C0.trans (CHr.ext E469 C0.1)
        have hke469 := Nat.le_trans hk0 E469.1
        refine oT st469 ?_
        show own_goW _ _ _ _ _ _ _ _ _ _ (T469.setTop (mkF m 121 #[.val (.int p0), .val (.int p1), .val (.int p2), .val (.int p3), .val (.int p4), .val (.int z5), .val (.int (1 : Int32)), .val (.int c0), .val (.int c1), .val (.int c2), .unset, .unset, .unset] [(.ref b469)]))
        refine oT (fun _ k => XS.dup X469.here hx rfl (hb hby at_121) rfl rfl k) ?_
        refine oT (fun _ k => XS.iconst X469.here hx rfl (hb hby at_122) k) ?_
        refine oT (fun _ k => XS.iload X469.here hx rfl (hb hby at_123) rfl k) ?_
        show own_goW _ _ _ _ _ _ _ _ _ _ (T469.setTop (mkF m 125 #[.val (.int p0), .val (.int p1), .val (.int p2), .val (.int p3), .val (.int p4), .val (.int z5), .val (.int (1 : Int32)), .val (.int c0), .val (.int c1), .val (.int c2), .unset, .unset, .unset] [(.int c0), (.int (0 : Int32)), (.ref b469), (.ref b469)]))
        obtain ⟨T470, h470, X470, e470, W470, V470, st470⟩ := own_putC X469 hx hZ e469 V469 (y := c0) (own_narC hc0) (j := (0 : Int32)) (by decide) 0 (by decide) (by show 0 < 1; decide) (g := (mkF m 125 #[.val (.int p0), .val (.int p1), .val (.int p2), .val (.int p3), .val (.int p4), .val (.int z5), .val (.int (1 : Int32)), .val (.int c0), .val (.int c1), .val (.int c2), .unset, .unset, .unset] [(.int c0), (.int (0 : Int32)), (.ref b469), (.ref b469)])) rfl rfl (hb hby at_125)
        have N470 := Fr.snoc X470 Nt ge_b469
        replace V470 : Arv Z h470 b469 k469 .char (1 : Int32) [(.int c0)] (.int (0 : Int32)) := V470
        have sf471 : Safe Z consts_1 s.vm h469 b469 := (own_safeV hZ.alike V469 (by decide))
        have Cw471 := Ce469.trans (CHr.wr W470 sf471 Ce469.1)
        have hkw471 := Nat.le_trans hke469 (Keep.of_wr W470).1
        have O471 := O469.wr W470 ge_b469
        have K471 := K469.wr W470 (Or.inr sz_b469)
        refine oT st470 ?_
        show own_goW _ _ _ _ _ _ _ _ _ _ (T470.setTop (mkF m 126 #[.val (.int p0), .val (.int p1), .val (.int p2), .val (.int p3), .val (.int p4), .val (.int z5), .val (.int (1 : Int32)), .val (.int c0), .val (.int c1), .val (.int c2), .unset, .unset, .unset] [(.ref b469)]))
        refine oT (fun _ k => XS.astore X470.here hx rfl (hb hby at_126) rfl rfl (l' := #[.val (.int p0), .val (.int p1), .val (.int p2), .val (.int p3), .val (.int p4), .val (.int z5), .val (.int (1 : Int32)), .val (.int c0), .val (.int c1), .val (.int c2), .unset, .unset, .val (.ref b469)]) rfl k) ?_
        show own_goW _ _ _ _ _ _ _ _ _ _ (T470.setTop (mkF m 128 #[.val (.int p0), .val (.int p1), .val (.int p2), .val (.int p3), .val (.int p4), .val (.int z5), .val (.int (1 : Int32)), .val (.int c0), .val (.int c1), .val (.int c2), .unset, .unset, .val (.ref b469)] []))
        obtain ⟨T472, h472, X472, e472, E472, A472, D472, -, st472⟩ := newO X470 hx hZ hown (ow hw 4 rfl) (ow hw 5 rfl) (ow hw 6 rfl) e470 (g := (mkF m 128 #[.val (.int p0), .val (.int p1), .val (.int p2), .val (.int p3), .val (.int p4), .val (.int z5), .val (.int (1 : Int32)), .val (.int c0), .val (.int c1), .val (.int c2), .unset, .unset, .val (.ref b469)] [])) rfl (hb hby at_128) (by decide) (by decide)
        obtain ⟨b472, g472⟩ : ∃ z, z = h470.size := ⟨_, rfl⟩
        rw [← g472] at A472 D472 st472
        have ge_b472 : n0 ≤ b472 := by rw [g472]; exact own_osz O471
        have sz_b472 : h0.size ≤ b472 := by rw [g472]; exact K471.1
        have ne_b469_b472 : b469 ≠ b472 := (fun q => absurd V470.lt (by rw [q, g472]; exact Nat.lt_irrefl _))
        have O472 := O471.ext E472
        have K472 := K471.ext E472
        have Ce472 := Cw471.trans (CHr.ext E472 Cw471.1)
        have hke472 := Nat.le_trans hkw471 E472.1
        refine oT st472 ?_
        show own_goW _ _ _ _ _ _ _ _ _ _ (T472.setTop (mkF m 131 #[.val (.int p0), .val (.int p1), .val (.int p2), .val (.int p3), .val (.int p4), .val (.int z5), .val (.int (1 : Int32)), .val (.int c0), .val (.int c1), .val (.int c2), .unset, .unset, .val (.ref b469)] [(.ref b472)]))
        refine oT (fun _ k => XS.dup X472.here hx rfl (hb hby at_131) rfl rfl k) ?_
        refine oT (fun _ k => XS.aload X472.here hx rfl (hb hby at_132) rfl rfl k) ?_
        show own_goW _ _ _ _ _ _ _ _ _ _ (T472.setTop (mkF m 134 #[.val (.int p0), .val (.int p1), .val (.int p2), .val (.int p3), .val (.int p4), .val (.int z5), .val (.int (1 : Int32)), .val (.int c0), .val (.int c1), .val (.int c2), .unset, .unset, .val (.ref b469)] [(.ref b469), (.ref b472), (.ref b472)]))
        have f474 := (V470.ext E472)
        obtain ⟨v473, T473, L473, X473, hQ473, st473⟩ := own_callN X472 hx hZ (argsL := [(.ref b469)]) (rest := [(.ref b472)]) (rm_s1_1 l Z a0 hw b472 b469 k469 c0 zC vS h472 n0 O472 hS ge_b472 A472 (D472 (Or.inr (ow hw 20 rfl)) (ty := (.array .byte)) (by decide)) (D472 (Or.inr (ow hw 21 rfl)) (ty := .byte) (by decide)) f474 hc0) rfl hown (ow hw 8 rfl) (ow hw 9 rfl) (ow hw 6 rfl) (ow hw 10 rfl) (by decide) e472 (g := (mkF m 134 #[.val (.int p0), .val (.int p1), .val (.int p2), .val (.int p3), .val (.int p4), .val (.int z5), .val (.int (1 : Int32)), .val (.int c0), .val (.int c1), .val (.int c2), .unset, .unset, .val (.ref b469)] [(.ref b469), (.ref b472), (.ref b472)])) rfl (by rw [hml]; rfl) (lenOf own_pd__28_5bC_29V rfl) rfl (W := 1) (by show 2 * 0 + _ ≤ _; exact Nat.le_of_eq rfl) (hb hby at_134) (by decide) (by decide) (by decide) (by decide)
        obtain ⟨rfl, Nq473, Kq473, t473, kt473, sz473, U473, D473⟩ := hQ473
        have N473 := Fr.app N470 Nq473
        have ne_b469_t473 : b469 ≠ t473 := (Nat.ne_of_lt (Nat.lt_of_lt_of_le f474.lt sz473))
        have ne_b472_t473 : b472 ≠ t473 := (Nat.ne_of_lt (Nat.lt_of_lt_of_le A472.lt sz473))
        have Ck473 := Ce472.trans (CHr.keep Kq473 (allS (own_safeS hZ.alike A472 (D472 (Or.inr (ow hw 20 rfl)) (ty := (.array .byte)) (by decide))) all0) Ce472.1)
        have hkk473 := Nat.le_trans hke472 Kq473.1
        have O473 := O472.keep Kq473 (allS ge_b472 all0)
        have K473 := K472.trans Kq473 (allS (Or.inr sz_b472) all0)
        refine oT st473 ?_
        show own_goW _ _ _ _ _ _ _ _ _ _ (T473.setTop (mkF m 137 #[.val (.int p0), .val (.int p1), .val (.int p2), .val (.int p3), .val (.int p4), .val (.int z5), .val (.int (1 : Int32)), .val (.int c0), .val (.int c1), .val (.int c2), .unset, .unset, .val (.ref b469)] [(.ref b472)]))
        refine oT (fun _ k => XS.astore X473.here hx rfl (hb hby at_137) rfl rfl (l' := #[.val (.int p0), .val (.int p1), .val (.int p2), .val (.int p3), .val (.int p4), .val (.int z5), .val (.int (1 : Int32)), .val (.int c0), .val (.int c1), .val (.int c2), .val (.ref b472), .unset, .val (.ref b469)]) rfl k) ?_
        show own_goW _ _ _ _ _ _ _ _ _ _ (T473.setTop (mkF m 139 #[.val (.int p0), .val (.int p1), .val (.int p2), .val (.int p3), .val (.int p4), .val (.int z5), .val (.int (1 : Int32)), .val (.int c0), .val (.int c1), .val (.int c2), .val (.ref b472), .unset, .val (.ref b469)] []))
        by_cases hc475 : own_ok c0
        · skip
          refine oT (fun _ k => XS.iload X473.here hx rfl (hb hby at_139) rfl k) ?_
          show own_goW _ _ _ _ _ _ _ _ _ _ (T473.setTop (mkF m 141 #[.val (.int p0), .val (.int p1), .val (.int p2), .val (.int p3), .val (.int p4), .val (.int z5), .val (.int (1 : Int32)), .val (.int c0), .val (.int c1), .val (.int c2), .val (.ref b472), .unset, .val (.ref b469)] [(.int c0)]))
          obtain ⟨v476, T476, L476, X476, hQ476, st476⟩ := own_callS X473 hx hZ (argsL := [(.int c0)]) (rest := []) (rm_pr1 l Z a0 hw c0 T473.heap n0 O473 hc475) hown (ow hw 46 rfl) (ow hw 47 rfl) (ow hw 2 rfl) (ow hw 48 rfl) (by decide) rfl (g := (mkF m 141 #[.val (.int p0), .val (.int p1), .val (.int p2), .val (.int p3), .val (.int p4), .val (.int z5), .val (.int (1 : Int32)), .val (.int c0), .val (.int c1), .val (.int c2), .val (.ref b472), .unset, .val (.ref b469)] [(.int c0)])) rfl (by rw [hml]; rfl) (lenOf own_pd__28C_29Z rfl) rfl (W := 0) (by show 2 * 0 + _ ≤ _; exact Nat.le_of_eq rfl) (hb hby at_141) (by decide) (by decide) (by decide) (by decide)
          obtain ⟨rfl, Nq476, eq476⟩ := hQ476
          have N476 := Fr.app N473 Nq476
          refine oT st476 ?_
          show own_goW _ _ _ _ _ _ _ _ _ _ (T476.setTop (mkF m 144 #[.val (.int p0), .val (.int p1), .val (.int p2), .val (.int p3), .val (.int p4), .val (.int z5), .val (.int (1 : Int32)), .val (.int c0), .val (.int c1), .val (.int c2), .val (.ref b472), .unset, .val (.ref b469)] [(.int (1 : Int32))]))
          refine oT (fun _ k => XS.istore X476.here hx rfl (hb hby at_144) rfl (l' := #[.val (.int p0), .val (.int p1), .val (.int p2), .val (.int p3), .val (.int p4), .val (.int z5), .val (.int (1 : Int32)), .val (.int c0), .val (.int c1), .val (.int c2), .val (.ref b472), .val (.int (1 : Int32)), .val (.ref b469)]) rfl k) ?_
          refine oT (fun _ k => XS.goto X476.here hx rfl (pc0 := 146) (pc' := 269) rfl (hb hby at_146) (by decide) (by decide) k) ?_
          refine oT (fun _ k => XS.aload X476.here hx rfl (hb hby at_269) rfl rfl k) ?_
          show own_goW _ _ _ _ _ _ _ _ _ _ (T476.setTop (mkF m 271 #[.val (.int p0), .val (.int p1), .val (.int p2), .val (.int p3), .val (.int p4), .val (.int z5), .val (.int (1 : Int32)), .val (.int c0), .val (.int c1), .val (.int c2), .val (.ref b472), .val (.int (1 : Int32)), .val (.ref b469)] [(.ref b472)]))
          have f478 := (A472.keep Kq473)
          obtain ⟨v477, T477, L477, X477, hQ477, st477⟩ := own_callS X476 hx hZ (argsL := [(.ref b472)]) (rest := []) (rm_kp_1 l Z a0 hw b472 t473 kt473 c0 zC vS T473.heap n0 O473 hS f478 U473 hc0 D473) hown (ow hw 26 rfl) (ow hw 27 rfl) (ow hw 28 rfl) (ow hw 29 rfl) (by decide) eq476 (g := (mkF m 271 #[.val (.int p0), .val (.int p1), .val (.int p2), .val (.int p3), .val (.int p4), .val (.int z5), .val (.int (1 : Int32)), .val (.int c0), .val (.int c1), .val (.int c2), .val (.ref b472), .val (.int (1 : Int32)), .val (.ref b469)] [(.ref b472)])) rfl (by rw [hml]; rfl) (lenOf own_pd__28Ljava_2flang_2fString_3b_29Ljava_2flang_2fString_3b rfl) rfl (W := 0) (by show 2 * 0 + _ ≤ _; exact Nat.le_of_eq rfl) (hb hby at_271) (by decide) (by decide) (by decide) (by decide)
          obtain ⟨w477, rfl, Nq477, eq477, iA477, iB477⟩ := hQ477
          have N477 := Fr.app N476 Nq477
          obtain rfl := iA477 hc475
          refine oT st477 ?_
          show own_goW _ _ _ _ _ _ _ _ _ _ (T477.setTop (mkF m 274 #[.val (.int p0), .val (.int p1), .val (.int p2), .val (.int p3), .val (.int p4), .val (.int z5), .val (.int (1 : Int32)), .val (.int c0), .val (.int c1), .val (.int c2), .val (.ref b472), .val (.int (1 : Int32)), .val (.ref b469)] [(.ref b472)]))
          refine oT (fun _ k => XS.astore X477.here hx rfl (hb hby at_274) rfl rfl (l' := #[.val (.int p0), .val (.int p1), .val (.int p2), .val (.int p3), .val (.int p4), .val (.int z5), .val (.int (1 : Int32)), .val (.int c0), .val (.int c1), .val (.int c2), .val (.ref b472), .val (.int (1 : Int32)), .val (.ref b472)]) rfl k) ?_
          refine oT (fun _ k => XS.iload X477.here hx rfl (hb hby at_276) rfl k) ?_
          show own_goW _ _ _ _ _ _ _ _ _ _ (T477.setTop (mkF m 278 #[.val (.int p0), .val (.int p1), .val (.int p2), .val (.int p3), .val (.int p4), .val (.int z5), .val (.int (1 : Int32)), .val (.int c0), .val (.int c1), .val (.int c2), .val (.ref b472), .val (.int (1 : Int32)), .val (.ref b472)] [(.int (1 : Int32))]))
          refine oT (fun _ k => XS.ifYes X477.here hx rfl (pc0 := 278) (pc' := 292) rfl (hb hby at_278) rfl (by decide) (by decide) (by decide) k) ?_
          refine oT (fun _ k => XS.aload X477.here hx rfl (hb hby at_292) rfl rfl k) ?_
          show own_goW _ _ _ _ _ _ _ _ _ _ (T477.setTop (mkF m 294 #[.val (.int p0), .val (.int p1), .val (.int p2), .val (.int p3), .val (.int p4), .val (.int z5), .val (.int (1 : Int32)), .val (.int c0), .val (.int c1), .val (.int c2), .val (.ref b472), .val (.int (1 : Int32)), .val (.ref b472)] [(.ref b472)]))
          refine oT (fun _ k => XS.ifnullNo X477.here hx rfl (hb hby at_294) rfl k) ?_
          refine oT (fun _ k => XS.aload X477.here hx rfl (hb hby at_297) rfl rfl k) ?_
          refine oT (fun _ k => XS.aload X477.here hx rfl (hb hby at_299) rfl rfl k) ?_
          show own_goW _ _ _ _ _ _ _ _ _ _ (T477.setTop (mkF m 301 #[.val (.int p0), .val (.int p1), .val (.int p2), .val (.int p3), .val (.int p4), .val (.int z5), .val (.int (1 : Int32)), .val (.int c0), .val (.int c1), .val (.int c2), .val (.ref b472), .val (.int (1 : Int32)), .val (.ref b472)] [(.ref b472), (.ref b472)]))
          obtain ⟨v479, T479, L479, X479, hQ479, st479⟩ := own_callV X477 hx hZ (argsL := [(.ref b472)]) (rest := []) (rm_eq l Z a0 hw b472 T473.heap n0 O473) hown (ow hw 110 rfl) (ow hw 111 rfl) (notFace_of_selects (args := #[]) (mvT hZ (ow hw 113 rfl))) (ow hw 113 rfl) (ow hw 112 rfl) (ow hw 6 rfl) (ow hw 114 rfl) (by decide) eq477 f478 (g := (mkF m 301 #[.val (.int p0), .val (.int p1), .val (.int p2), .val (.int p3), .val (.int p4), .val (.int z5), .val (.int (1 : Int32)), .val (.int c0), .val (.int c1), .val (.int c2), .val (.ref b472), .val (.int (1 : Int32)), .val (.ref b472)] [(.ref b472), (.ref b472)])) rfl (by rw [hml]; rfl) (lenOf own_pd__28Ljava_2flang_2fObject_3b_29Z rfl) rfl (W := 0) (by show 2 * 0 + _ ≤ _; exact Nat.le_of_eq rfl) (hb hby at_301) (by decide) (by decide) (by decide) (by decide)
          obtain ⟨rfl, Nq479, eq479⟩ := hQ479
          have N479 := Fr.app N477 Nq479
          refine oT st479 ?_
          show own_goW _ _ _ _ _ _ _ _ _ _ (T479.setTop (mkF m 304 #[.val (.int p0), .val (.int p1), .val (.int p2), .val (.int p3), .val (.int p4), .val (.int z5), .val (.int (1 : Int32)), .val (.int c0), .val (.int c1), .val (.int c2), .val (.ref b472), .val (.int (1 : Int32)), .val (.ref b472)] [(.int (1 : Int32))]))
          refine oT (fun _ k => XS.ifNo X479.here hx rfl (hb hby at_304) rfl (by decide) k) ?_
          refine oT (fun _ k => XS.iconst X479.here hx rfl (hb hby at_307) k) ?_
          refine oT (fun _ k => XS.goto X479.here hx rfl (pc0 := 308) (pc' := 312) rfl (hb hby at_308) (by decide) (by decide) k) ?_
          show own_goW _ _ _ _ _ _ _ _ _ _ (T479.setTop (mkF m 312 #[.val (.int p0), .val (.int p1), .val (.int p2), .val (.int p3), .val (.int p4), .val (.int z5), .val (.int (1 : Int32)), .val (.int c0), .val (.int c1), .val (.int c2), .val (.ref b472), .val (.int (1 : Int32)), .val (.ref b472)] [(.int (1 : Int32))]))
          exact own_retNW X479 hx hlk hS0 hkk473 hZ hEL Ck473 eq479 (t := .boolean) hret (by simp) rfl (hb hby at_312) (by decide) (by decide) (⟨rfl, N479⟩)
        · skip
          refine oT (fun _ k => XS.iload X473.here hx rfl (hb hby at_139) rfl k) ?_
          show own_goW _ _ _ _ _ _ _ _ _ _ (T473.setTop (mkF m 141 #[.val (.int p0), .val (.int p1), .val (.int p2), .val (.int p3), .val (.int p4), .val (.int z5), .val (.int (1 : Int32)), .val (.int c0), .val (.int c1), .val (.int c2), .val (.ref b472), .unset, .val (.ref b469)] [(.int c0)]))
          obtain ⟨v480, T480, L480, X480, hQ480, st480⟩ := own_callS X473 hx hZ (argsL := [(.int c0)]) (rest := []) (rm_pr0 l Z a0 hw c0 T473.heap n0 O473 hc475) hown (ow hw 46 rfl) (ow hw 47 rfl) (ow hw 2 rfl) (ow hw 48 rfl) (by decide) rfl (g := (mkF m 141 #[.val (.int p0), .val (.int p1), .val (.int p2), .val (.int p3), .val (.int p4), .val (.int z5), .val (.int (1 : Int32)), .val (.int c0), .val (.int c1), .val (.int c2), .val (.ref b472), .unset, .val (.ref b469)] [(.int c0)])) rfl (by rw [hml]; rfl) (lenOf own_pd__28C_29Z rfl) rfl (W := 0) (by show 2 * 0 + _ ≤ _; exact Nat.le_of_eq rfl) (hb hby at_141) (by decide) (by decide) (by decide) (by decide)
          obtain ⟨rfl, Nq480, eq480⟩ := hQ480
          have N480 := Fr.app N473 Nq480
          refine oT st480 ?_
          show own_goW _ _ _ _ _ _ _ _ _ _ (T480.setTop (mkF m 144 #[.val (.int p0), .val (.int p1), .val (.int p2), .val (.int p3), .val (.int p4), .val (.int z5), .val (.int (1 : Int32)), .val (.int c0), .val (.int c1), .val (.int c2), .val (.ref b472), .unset, .val (.ref b469)] [(.int (0 : Int32))]))
          refine oT (fun _ k => XS.istore X480.here hx rfl (hb hby at_144) rfl (l' := #[.val (.int p0), .val (.int p1), .val (.int p2), .val (.int p3), .val (.int p4), .val (.int z5), .val (.int (1 : Int32)), .val (.int c0), .val (.int c1), .val (.int c2), .val (.ref b472), .val (.int (0 : Int32)), .val (.ref b469)]) rfl k) ?_
          refine oT (fun _ k => XS.goto X480.here hx rfl (pc0 := 146) (pc' := 269) rfl (hb hby at_146) (by decide) (by decide) k) ?_
          refine oT (fun _ k => XS.aload X480.here hx rfl (hb hby at_269) rfl rfl k) ?_
          show own_goW _ _ _ _ _ _ _ _ _ _ (T480.setTop (mkF m 271 #[.val (.int p0), .val (.int p1), .val (.int p2), .val (.int p3), .val (.int p4), .val (.int z5), .val (.int (1 : Int32)), .val (.int c0), .val (.int c1), .val (.int c2), .val (.ref b472), .val (.int (0 : Int32)), .val (.ref b469)] [(.ref b472)]))
          have f482 := (A472.keep Kq473)
          obtain ⟨v481, T481, L481, X481, hQ481, st481⟩ := own_callS X480 hx hZ (argsL := [(.ref b472)]) (rest := []) (rm_kp_1 l Z a0 hw b472 t473 kt473 c0 zC vS T473.heap n0 O473 hS f482 U473 hc0 D473) hown (ow hw 26 rfl) (ow hw 27 rfl) (ow hw 28 rfl) (ow hw 29 rfl) (by decide) eq480 (g := (mkF m 271 #[.val (.int p0), .val (.int p1), .val (.int p2), .val (.int p3), .val (.int p4), .val (.int z5), .val (.int (1 : Int32)), .val (.int c0), .val (.int c1), .val (.int c2), .val (.ref b472), .val (.int (0 : Int32)), .val (.ref b469)] [(.ref b472)])) rfl (by rw [hml]; rfl) (lenOf own_pd__28Ljava_2flang_2fString_3b_29Ljava_2flang_2fString_3b rfl) rfl (W := 0) (by show 2 * 0 + _ ≤ _; exact Nat.le_of_eq rfl) (hb hby at_271) (by decide) (by decide) (by decide) (by decide)
          obtain ⟨w481, rfl, Nq481, eq481, iA481, iB481⟩ := hQ481
          have N481 := Fr.app N480 Nq481
          obtain rfl := iB481 (fun q => absurd q hc475)
          refine oT st481 ?_
          show own_goW _ _ _ _ _ _ _ _ _ _ (T481.setTop (mkF m 274 #[.val (.int p0), .val (.int p1), .val (.int p2), .val (.int p3), .val (.int p4), .val (.int z5), .val (.int (1 : Int32)), .val (.int c0), .val (.int c1), .val (.int c2), .val (.ref b472), .val (.int (0 : Int32)), .val (.ref b469)] [.null]))
          refine oT (fun _ k => XS.astore X481.here hx rfl (hb hby at_274) rfl rfl (l' := #[.val (.int p0), .val (.int p1), .val (.int p2), .val (.int p3), .val (.int p4), .val (.int z5), .val (.int (1 : Int32)), .val (.int c0), .val (.int c1), .val (.int c2), .val (.ref b472), .val (.int (0 : Int32)), .val .null]) rfl k) ?_
          refine oT (fun _ k => XS.iload X481.here hx rfl (hb hby at_276) rfl k) ?_
          show own_goW _ _ _ _ _ _ _ _ _ _ (T481.setTop (mkF m 278 #[.val (.int p0), .val (.int p1), .val (.int p2), .val (.int p3), .val (.int p4), .val (.int z5), .val (.int (1 : Int32)), .val (.int c0), .val (.int c1), .val (.int c2), .val (.ref b472), .val (.int (0 : Int32)), .val .null] [(.int (0 : Int32))]))
          refine oT (fun _ k => XS.ifNo X481.here hx rfl (hb hby at_278) rfl (by decide) k) ?_
          refine oT (fun _ k => XS.aload X481.here hx rfl (hb hby at_281) rfl rfl k) ?_
          show own_goW _ _ _ _ _ _ _ _ _ _ (T481.setTop (mkF m 283 #[.val (.int p0), .val (.int p1), .val (.int p2), .val (.int p3), .val (.int p4), .val (.int z5), .val (.int (1 : Int32)), .val (.int c0), .val (.int c1), .val (.int c2), .val (.ref b472), .val (.int (0 : Int32)), .val .null] [.null]))
          refine oT (fun _ k => XS.ifnonnullNo X481.here hx rfl (hb hby at_283) rfl k) ?_
          refine oT (fun _ k => XS.iconst X481.here hx rfl (hb hby at_286) k) ?_
          refine oT (fun _ k => XS.goto X481.here hx rfl (pc0 := 287) (pc' := 291) rfl (hb hby at_287) (by decide) (by decide) k) ?_
          show own_goW _ _ _ _ _ _ _ _ _ _ (T481.setTop (mkF m 291 #[.val (.int p0), .val (.int p1), .val (.int p2), .val (.int p3), .val (.int p4), .val (.int z5), .val (.int (1 : Int32)), .val (.int c0), .val (.int c1), .val (.int c2), .val (.ref b472), .val (.int (0 : Int32)), .val .null] [(.int (1 : Int32))]))
          exact own_retNW X481 hx hlk hS0 hkk473 hZ hEL Ck473 eq481 (t := .boolean) hret (by simp) rfl (hb hby at_291) (by decide) (by decide) (⟨rfl, N481⟩)
      · skip
        show own_goW _ _ _ _ _ _ _ _ _ _ (Tt.setTop (mkF m 89 #[.val (.int p0), .val (.int p1), .val (.int p2), .val (.int p3), .val (.int p4), .val (.int z5), .val (.int n6), .val (.int c0), .val (.int c1), .val (.int c2), .unset, .unset, .unset] []))
        rw [q]
        show own_goW _ _ _ _ _ _ _ _ _ _ (Tt.setTop (mkF m 89 #[.val (.int p0), .val (.int p1), .val (.int p2), .val (.int p3), .val (.int p4), .val (.int z5), .val (.int (2 : Int32)), .val (.int c0), .val (.int c1), .val (.int c2), .unset, .unset, .unset] []))
        refine oT (fun _ k => XS.iload Xt.here hx rfl (hb hby at_89) rfl k) ?_
        show own_goW _ _ _ _ _ _ _ _ _ _ (Tt.setTop (mkF m 91 #[.val (.int p0), .val (.int p1), .val (.int p2), .val (.int p3), .val (.int p4), .val (.int z5), .val (.int (2 : Int32)), .val (.int c0), .val (.int c1), .val (.int c2), .unset, .unset, .unset] [(.int (2 : Int32))]))
        refine oT (fun _ k => XS.ifYes Xt.here hx rfl (pc0 := 91) (pc' := 112) rfl (hb hby at_91) rfl (by decide) (by decide) (by decide) k) ?_
        refine oT (fun _ k => XS.iload Xt.here hx rfl (hb hby at_112) rfl k) ?_
        refine oT (fun _ k => XS.iconst Xt.here hx rfl (hb hby at_114) k) ?_
        show own_goW _ _ _ _ _ _ _ _ _ _ (Tt.setTop (mkF m 115 #[.val (.int p0), .val (.int p1), .val (.int p2), .val (.int p3), .val (.int p4), .val (.int z5), .val (.int (2 : Int32)), .val (.int c0), .val (.int c1), .val (.int c2), .unset, .unset, .unset] [(.int (1 : Int32)), (.int (2 : Int32))]))
        refine oT (fun _ k => XS.icmpYes Xt.here hx rfl (pc0 := 115) (pc' := 149) rfl (hb hby at_115) rfl (by decide) (by decide) (by decide) k) ?_
        refine oT (fun _ k => XS.iload Xt.here hx rfl (hb hby at_149) rfl k) ?_
        refine oT (fun _ k => XS.iconst Xt.here hx rfl (hb hby at_151) k) ?_
        show own_goW _ _ _ _ _ _ _ _ _ _ (Tt.setTop (mkF m 152 #[.val (.int p0), .val (.int p1), .val (.int p2), .val (.int p3), .val (.int p4), .val (.int z5), .val (.int (2 : Int32)), .val (.int c0), .val (.int c1), .val (.int c2), .unset, .unset, .unset] [(.int (2 : Int32)), (.int (2 : Int32))]))
        refine oT (fun _ k => XS.icmpNo Xt.here hx rfl (hb hby at_152) rfl (by decide) k) ?_
        refine oT (fun _ k => XS.iconst Xt.here hx rfl (hb hby at_155) k) ?_
        show own_goW _ _ _ _ _ _ _ _ _ _ (Tt.setTop (mkF m 156 #[.val (.int p0), .val (.int p1), .val (.int p2), .val (.int p3), .val (.int p4), .val (.int z5), .val (.int (2 : Int32)), .val (.int c0), .val (.int c1), .val (.int c2), .unset, .unset, .unset] [(.int (2 : Int32))]))
        obtain ⟨T483, h483, k483, b483, X483, e483, g483, E483, V483, st483⟩ := own_newP Xt hx hZ (aty := .char) (ow hw 7 rfl) et (g := (mkF m 156 #[.val (.int p0), .val (.int p1), .val (.int p2), .val (.int p3), .val (.int p4), .val (.int z5), .val (.int (2 : Int32)), .val (.int c0), .val (.int c1), .val (.int c2), .unset, .unset, .unset] [(.int (2 : Int32))])) rfl (hb hby at_156) rfl (by decide) (cap := 2) (by decide) (by decide) (by decide) (by decide)
        replace V483 : Arv Z h483 b483 k483 .char (2 : Int32) [(.int (0 : Int32)), (.int (0 : Int32))] (.int (0 : Int32)) := V483
        have ge_b483 : n0 ≤ b483 := by rw [g483]; exact own_osz O0
        have sz_b483 : h0.size ≤ b483 := by rw [g483]; exact K0.1
        have O483 := O0.ext E483
        have K483 := K0.ext E483
        have Ce483 := C0.trans (CHr.ext E483 C0.1)
        have hke483 := Nat.le_trans hk0 E483.1
        refine oT st483 ?_
        show own_goW _ _ _ _ _ _ _ _ _ _ (T483.setTop (mkF m 158 #[.val (.int p0), .val (.int p1), .val (.int p2), .val (.int p3), .val (.int p4), .val (.int z5), .val (.int (2 : Int32)), .val (.int c0), .val (.int c1), .val (.int c2), .unset, .unset, .unset] [(.ref b483)]))
        refine oT (fun _ k => XS.dup X483.here hx rfl (hb hby at_158) rfl rfl k) ?_
        refine oT (fun _ k => XS.iconst X483.here hx rfl (hb hby at_159) k) ?_
        refine oT (fun _ k => XS.iload X483.here hx rfl (hb hby at_160) rfl k) ?_
        show own_goW _ _ _ _ _ _ _ _ _ _ (T483.setTop (mkF m 162 #[.val (.int p0), .val (.int p1), .val (.int p2), .val (.int p3), .val (.int p4), .val (.int z5), .val (.int (2 : Int32)), .val (.int c0), .val (.int c1), .val (.int c2), .unset, .unset, .unset] [(.int c0), (.int (0 : Int32)), (.ref b483), (.ref b483)]))
        obtain ⟨T484, h484, X484, e484, W484, V484, st484⟩ := own_putC X483 hx hZ e483 V483 (y := c0) (own_narC hc0) (j := (0 : Int32)) (by decide) 0 (by decide) (by show 0 < 2; decide) (g := (mkF m 162 #[.val (.int p0), .val (.int p1), .val (.int p2), .val (.int p3), .val (.int p4), .val (.int z5), .val (.int (2 : Int32)), .val (.int c0), .val (.int c1), .val (.int c2), .unset, .unset, .unset] [(.int c0), (.int (0 : Int32)), (.ref b483), (.ref b483)])) rfl rfl (hb hby at_162)
        have N484 := Fr.snoc X484 Nt ge_b483
        replace V484 : Arv Z h484 b483 k483 .char (2 : Int32) [(.int c0), (.int (0 : Int32))] (.int (0 : Int32)) := V484
        have sf485 : Safe Z consts_1 s.vm h483 b483 := (own_safeV hZ.alike V483 (by decide))
        have Cw485 := Ce483.trans (CHr.wr W484 sf485 Ce483.1)
        have hkw485 := Nat.le_trans hke483 (Keep.of_wr W484).1
        have O485 := O483.wr W484 ge_b483
        have K485 := K483.wr W484 (Or.inr sz_b483)
        refine oT st484 ?_
        show own_goW _ _ _ _ _ _ _ _ _ _ (T484.setTop (mkF m 163 #[.val (.int p0), .val (.int p1), .val (.int p2), .val (.int p3), .val (.int p4), .val (.int z5), .val (.int (2 : Int32)), .val (.int c0), .val (.int c1), .val (.int c2), .unset, .unset, .unset] [(.ref b483)]))
        refine oT (fun _ k => XS.dup X484.here hx rfl (hb hby at_163) rfl rfl k) ?_
        refine oT (fun _ k => XS.iconst X484.here hx rfl (hb hby at_164) k) ?_
        refine oT (fun _ k => XS.iload X484.here hx rfl (hb hby at_165) rfl k) ?_
        show own_goW _ _ _ _ _ _ _ _ _ _ (T484.setTop (mkF m 167 #[.val (.int p0), .val (.int p1), .val (.int p2), .val (.int p3), .val (.int p4), .val (.int z5), .val (.int (2 : Int32)), .val (.int c0), .val (.int c1), .val (.int c2), .unset, .unset, .unset] [(.int c1), (.int (1 : Int32)), (.ref b483), (.ref b483)]))
        obtain ⟨T486, h486, X486, e486, W486, V486, st486⟩ := own_putC X484 hx hZ e484 V484 (y := c1) (own_narC hc1) (j := (1 : Int32)) (by decide) 1 (by decide) (by show 1 < 2; decide) (g := (mkF m 167 #[.val (.int p0), .val (.int p1), .val (.int p2), .val (.int p3), .val (.int p4), .val (.int z5), .val (.int (2 : Int32)), .val (.int c0), .val (.int c1), .val (.int c2), .unset, .unset, .unset] [(.int c1), (.int (1 : Int32)), (.ref b483), (.ref b483)])) rfl rfl (hb hby at_167)
        have N486 := Fr.snoc X486 N484 ge_b483
        replace V486 : Arv Z h486 b483 k483 .char (2 : Int32) [(.int c0), (.int c1)] (.int (0 : Int32)) := V486
        have sf487 : Safe Z consts_1 s.vm h484 b483 := (own_safeV hZ.alike V484 (by decide))
        have Cw487 := Cw485.trans (CHr.wr W486 sf487 Cw485.1)
        have hkw487 := Nat.le_trans hkw485 (Keep.of_wr W486).1
        have O487 := O485.wr W486 ge_b483
        have K487 := K485.wr W486 (Or.inr sz_b483)
        refine oT st486 ?_
        show own_goW _ _ _ _ _ _ _ _ _ _ (T486.setTop (mkF m 168 #[.val (.int p0), .val (.int p1), .val (.int p2), .val (.int p3), .val (.int p4), .val (.int z5), .val (.int (2 : Int32)), .val (.int c0), .val (.int c1), .val (.int c2), .unset, .unset, .unset] [(.ref b483)]))
        refine oT (fun _ k => XS.astore X486.here hx rfl (hb hby at_168) rfl rfl (l' := #[.val (.int p0), .val (.int p1), .val (.int p2), .val (.int p3), .val (.int p4), .val (.int z5), .val (.int (2 : Int32)), .val (.int c0), .val (.int c1), .val (.int c2), .unset, .unset, .val (.ref b483)]) rfl k) ?_
        show own_goW _ _ _ _ _ _ _ _ _ _ (T486.setTop (mkF m 170 #[.val (.int p0), .val (.int p1), .val (.int p2), .val (.int p3), .val (.int p4), .val (.int z5), .val (.int (2 : Int32)), .val (.int c0), .val (.int c1), .val (.int c2), .unset, .unset, .val (.ref b483)] []))
        obtain ⟨T488, h488, X488, e488, E488, A488, D488, -, st488⟩ := newO X486 hx hZ hown (ow hw 4 rfl) (ow hw 5 rfl) (ow hw 6 rfl) e486 (g := (mkF m 170 #[.val (.int p0), .val (.int p1), .val (.int p2), .val (.int p3), .val (.int p4), .val (.int z5), .val (.int (2 : Int32)), .val (.int c0), .val (.int c1), .val (.int c2), .unset, .unset, .val (.ref b483)] [])) rfl (hb hby at_170) (by decide) (by decide)
        obtain ⟨b488, g488⟩ : ∃ z, z = h486.size := ⟨_, rfl⟩
        rw [← g488] at A488 D488 st488
        have ge_b488 : n0 ≤ b488 := by rw [g488]; exact own_osz O487
        have sz_b488 : h0.size ≤ b488 := by rw [g488]; exact K487.1
        have ne_b483_b488 : b483 ≠ b488 := (fun q => absurd V486.lt (by rw [q, g488]; exact Nat.lt_irrefl _))
        have O488 := O487.ext E488
        have K488 := K487.ext E488
        have Ce488 := Cw487.trans (CHr.ext E488 Cw487.1)
        have hke488 := Nat.le_trans hkw487 E488.1
        refine oT st488 ?_
        show own_goW _ _ _ _ _ _ _ _ _ _ (T488.setTop (mkF m 173 #[.val (.int p0), .val (.int p1), .val (.int p2), .val (.int p3), .val (.int p4), .val (.int z5), .val (.int (2 : Int32)), .val (.int c0), .val (.int c1), .val (.int c2), .unset, .unset, .val (.ref b483)] [(.ref b488)]))
        refine oT (fun _ k => XS.dup X488.here hx rfl (hb hby at_173) rfl rfl k) ?_
        refine oT (fun _ k => XS.aload X488.here hx rfl (hb hby at_174) rfl rfl k) ?_
        show own_goW _ _ _ _ _ _ _ _ _ _ (T488.setTop (mkF m 176 #[.val (.int p0), .val (.int p1), .val (.int p2), .val (.int p3), .val (.int p4), .val (.int z5), .val (.int (2 : Int32)), .val (.int c0), .val (.int c1), .val (.int c2), .unset, .unset, .val (.ref b483)] [(.ref b483), (.ref b488), (.ref b488)]))
        have f490 := (V486.ext E488)
        obtain ⟨v489, T489, L489, X489, hQ489, st489⟩ := own_callN X488 hx hZ (argsL := [(.ref b483)]) (rest := [(.ref b488)]) (rm_s1_2 l Z a0 hw b488 b483 k483 c0 c1 zC vS h488 n0 O488 hS ge_b488 A488 (D488 (Or.inr (ow hw 20 rfl)) (ty := (.array .byte)) (by decide)) (D488 (Or.inr (ow hw 21 rfl)) (ty := .byte) (by decide)) f490 hc0 hc1) rfl hown (ow hw 8 rfl) (ow hw 9 rfl) (ow hw 6 rfl) (ow hw 10 rfl) (by decide) e488 (g := (mkF m 176 #[.val (.int p0), .val (.int p1), .val (.int p2), .val (.int p3), .val (.int p4), .val (.int z5), .val (.int (2 : Int32)), .val (.int c0), .val (.int c1), .val (.int c2), .unset, .unset, .val (.ref b483)] [(.ref b483), (.ref b488), (.ref b488)])) rfl (by rw [hml]; rfl) (lenOf own_pd__28_5bC_29V rfl) rfl (W := 1) (by show 2 * 0 + _ ≤ _; exact Nat.le_of_eq rfl) (hb hby at_176) (by decide) (by decide) (by decide) (by decide)
        obtain ⟨rfl, Nq489, Kq489, t489, kt489, sz489, U489, D489⟩ := hQ489
        have N489 := Fr.app N486 Nq489
        have ne_b483_t489 : b483 ≠ t489 := (Nat.ne_of_lt (Nat.lt_of_lt_of_le f490.lt sz489))
        have ne_b488_t489 : b488 ≠ t489 := (Nat.ne_of_lt (Nat.lt_of_lt_of_le A488.lt sz489))
        have Ck489 := Ce488.trans (CHr.keep Kq489 (allS (own_safeS hZ.alike A488 (D488 (Or.inr (ow hw 20 rfl)) (ty := (.array .byte)) (by decide))) all0) Ce488.1)
        have hkk489 := Nat.le_trans hke488 Kq489.1
        have O489 := O488.keep Kq489 (allS ge_b488 all0)
        have K489 := K488.trans Kq489 (allS (Or.inr sz_b488) all0)
        refine oT st489 ?_
        show own_goW _ _ _ _ _ _ _ _ _ _ (T489.setTop (mkF m 179 #[.val (.int p0), .val (.int p1), .val (.int p2), .val (.int p3), .val (.int p4), .val (.int z5), .val (.int (2 : Int32)), .val (.int c0), .val (.int c1), .val (.int c2), .unset, .unset, .val (.ref b483)] [(.ref b488)]))
        refine oT (fun _ k => XS.astore X489.here hx rfl (hb hby at_179) rfl rfl (l' := #[.val (.int p0), .val (.int p1), .val (.int p2), .val (.int p3), .val (.int p4), .val (.int z5), .val (.int (2 : Int32)), .val (.int c0), .val (.int c1), .val (.int c2), .val (.ref b488), .unset, .val (.ref b483)]) rfl k) ?_
        show own_goW _ _ _ _ _ _ _ _ _ _ (T489.setTop (mkF m 181 #[.val (.int p0), .val (.int p1), .val (.int p2), .val (.int p3), .val (.int p4), .val (.int z5), .val (.int (2 : Int32)), .val (.int c0), .val (.int c1), .val (.int c2), .val (.ref b488), .unset, .val (.ref b483)] []))
        by_cases hc491 : own_ok c0
        · skip
          show own_goW _ _ _ _ _ _ _ _ _ _ (T489.setTop (mkF m 181 #[.val (.int p0), .val (.int p1), .val (.int p2), .val (.int p3), .val (.int p4), .val (.int z5), .val (.int (2 : Int32)), .val (.int c0), .val (.int c1), .val (.int c2), .val (.ref b488), .unset, .val (.ref b483)] []))
          by_cases hc492 : own_ok c1
          · skip
            refine oT (fun _ k => XS.iload X489.here hx rfl (hb hby at_181) rfl k) ?_
            show own_goW _ _ _ _ _ _ _ _ _ _ (T489.setTop (mkF m 183 #[.val (.int p0), .val (.int p1), .val (.int p2), .val (.int p3), .val (.int p4), .val (.int z5), .val (.int (2 : Int32)), .val (.int c0), .val (.int c1), .val (.int c2), .val (.ref b488), .unset, .val (.ref b483)] [(.int c0)]))
            obtain ⟨v493, T493, L493, X493, hQ493, st493⟩ := own_callS X489 hx hZ (argsL := [(.int c0)]) (rest := []) (rm_pr1 l Z a0 hw c0 T489.heap n0 O489 hc491) hown (ow hw 46 rfl) (ow hw 47 rfl) (ow hw 2 rfl) (ow hw 48 rfl) (by decide) rfl (g := (mkF m 183 #[.val (.int p0), .val (.int p1), .val (.int p2), .val (.int p3), .val (.int p4), .val (.int z5), .val (.int (2 : Int32)), .val (.int c0), .val (.int c1), .val (.int c2), .val (.ref b488), .unset, .val (.ref b483)] [(.int c0)])) rfl (by rw [hml]; rfl) (lenOf own_pd__28C_29Z rfl) rfl (W := 0) (by show 2 * 0 + _ ≤ _; exact Nat.le_of_eq rfl) (hb hby at_183) (by decide) (by decide) (by decide) (by decide)
            obtain ⟨rfl, Nq493, eq493⟩ := hQ493
            have N493 := Fr.app N489 Nq493
            refine oT st493 ?_
            show own_goW _ _ _ _ _ _ _ _ _ _ (T493.setTop (mkF m 186 #[.val (.int p0), .val (.int p1), .val (.int p2), .val (.int p3), .val (.int p4), .val (.int z5), .val (.int (2 : Int32)), .val (.int c0), .val (.int c1), .val (.int c2), .val (.ref b488), .unset, .val (.ref b483)] [(.int (1 : Int32))]))
            refine oT (fun _ k => XS.ifNo X493.here hx rfl (hb hby at_186) rfl (by decide) k) ?_
            refine oT (fun _ k => XS.iload X493.here hx rfl (hb hby at_189) rfl k) ?_
            show own_goW _ _ _ _ _ _ _ _ _ _ (T493.setTop (mkF m 191 #[.val (.int p0), .val (.int p1), .val (.int p2), .val (.int p3), .val (.int p4), .val (.int z5), .val (.int (2 : Int32)), .val (.int c0), .val (.int c1), .val (.int c2), .val (.ref b488), .unset, .val (.ref b483)] [(.int c1)]))
            obtain ⟨v494, T494, L494, X494, hQ494, st494⟩ := own_callS X493 hx hZ (argsL := [(.int c1)]) (rest := []) (rm_pr1 l Z a0 hw c1 T489.heap n0 O489 hc492) hown (ow hw 46 rfl) (ow hw 47 rfl) (ow hw 2 rfl) (ow hw 48 rfl) (by decide) eq493 (g := (mkF m 191 #[.val (.int p0), .val (.int p1), .val (.int p2), .val (.int p3), .val (.int p4), .val (.int z5), .val (.int (2 : Int32)), .val (.int c0), .val (.int c1), .val (.int c2), .val (.ref b488), .unset, .val (.ref b483)] [(.int c1)])) rfl (by rw [hml]; rfl) (lenOf own_pd__28C_29Z rfl) rfl (W := 0) (by show 2 * 0 + _ ≤ _; exact Nat.le_of_eq rfl) (hb hby at_191) (by decide) (by decide) (by decide) (by decide)
            obtain ⟨rfl, Nq494, eq494⟩ := hQ494
            have N494 := Fr.app N493 Nq494
            refine oT st494 ?_
            show own_goW _ _ _ _ _ _ _ _ _ _ (T494.setTop (mkF m 194 #[.val (.int p0), .val (.int p1), .val (.int p2), .val (.int p3), .val (.int p4), .val (.int z5), .val (.int (2 : Int32)), .val (.int c0), .val (.int c1), .val (.int c2), .val (.ref b488), .unset, .val (.ref b483)] [(.int (1 : Int32))]))
            refine oT (fun _ k => XS.ifNo X494.here hx rfl (hb hby at_194) rfl (by decide) k) ?_
            refine oT (fun _ k => XS.iconst X494.here hx rfl (hb hby at_197) k) ?_
            refine oT (fun _ k => XS.goto X494.here hx rfl (pc0 := 198) (pc' := 202) rfl (hb hby at_198) (by decide) (by decide) k) ?_
            refine oT (fun _ k => XS.istore X494.here hx rfl (hb hby at_202) rfl (l' := #[.val (.int p0), .val (.int p1), .val (.int p2), .val (.int p3), .val (.int p4), .val (.int z5), .val (.int (2 : Int32)), .val (.int c0), .val (.int c1), .val (.int c2), .val (.ref b488), .val (.int (1 : Int32)), .val (.ref b483)]) rfl k) ?_
            refine oT (fun _ k => XS.goto X494.here hx rfl (pc0 := 204) (pc' := 269) rfl (hb hby at_204) (by decide) (by decide) k) ?_
            show own_goW _ _ _ _ _ _ _ _ _ _ (T494.setTop (mkF m 269 #[.val (.int p0), .val (.int p1), .val (.int p2), .val (.int p3), .val (.int p4), .val (.int z5), .val (.int (2 : Int32)), .val (.int c0), .val (.int c1), .val (.int c2), .val (.ref b488), .val (.int (1 : Int32)), .val (.ref b483)] []))
            refine oT (fun _ k => XS.aload X494.here hx rfl (hb hby at_269) rfl rfl k) ?_
            show own_goW _ _ _ _ _ _ _ _ _ _ (T494.setTop (mkF m 271 #[.val (.int p0), .val (.int p1), .val (.int p2), .val (.int p3), .val (.int p4), .val (.int z5), .val (.int (2 : Int32)), .val (.int c0), .val (.int c1), .val (.int c2), .val (.ref b488), .val (.int (1 : Int32)), .val (.ref b483)] [(.ref b488)]))
            have f496 := (A488.keep Kq489)
            obtain ⟨v495, T495, L495, X495, hQ495, st495⟩ := own_callS X494 hx hZ (argsL := [(.ref b488)]) (rest := []) (rm_kp_2 l Z a0 hw b488 t489 kt489 c0 c1 zC vS T489.heap n0 O489 hS f496 U489 hc0 hc1 D489) hown (ow hw 26 rfl) (ow hw 27 rfl) (ow hw 28 rfl) (ow hw 29 rfl) (by decide) eq494 (g := (mkF m 271 #[.val (.int p0), .val (.int p1), .val (.int p2), .val (.int p3), .val (.int p4), .val (.int z5), .val (.int (2 : Int32)), .val (.int c0), .val (.int c1), .val (.int c2), .val (.ref b488), .val (.int (1 : Int32)), .val (.ref b483)] [(.ref b488)])) rfl (by rw [hml]; rfl) (lenOf own_pd__28Ljava_2flang_2fString_3b_29Ljava_2flang_2fString_3b rfl) rfl (W := 0) (by show 2 * 0 + _ ≤ _; exact Nat.le_of_eq rfl) (hb hby at_271) (by decide) (by decide) (by decide) (by decide)
            obtain ⟨w495, rfl, Nq495, eq495, iA495, iB495⟩ := hQ495
            have N495 := Fr.app N494 Nq495
            obtain rfl := iA495 ⟨hc491, hc492⟩
            refine oT st495 ?_
            show own_goW _ _ _ _ _ _ _ _ _ _ (T495.setTop (mkF m 274 #[.val (.int p0), .val (.int p1), .val (.int p2), .val (.int p3), .val (.int p4), .val (.int z5), .val (.int (2 : Int32)), .val (.int c0), .val (.int c1), .val (.int c2), .val (.ref b488), .val (.int (1 : Int32)), .val (.ref b483)] [(.ref b488)]))
            refine oT (fun _ k => XS.astore X495.here hx rfl (hb hby at_274) rfl rfl (l' := #[.val (.int p0), .val (.int p1), .val (.int p2), .val (.int p3), .val (.int p4), .val (.int z5), .val (.int (2 : Int32)), .val (.int c0), .val (.int c1), .val (.int c2), .val (.ref b488), .val (.int (1 : Int32)), .val (.ref b488)]) rfl k) ?_
            refine oT (fun _ k => XS.iload X495.here hx rfl (hb hby at_276) rfl k) ?_
            show own_goW _ _ _ _ _ _ _ _ _ _ (T495.setTop (mkF m 278 #[.val (.int p0), .val (.int p1), .val (.int p2), .val (.int p3), .val (.int p4), .val (.int z5), .val (.int (2 : Int32)), .val (.int c0), .val (.int c1), .val (.int c2), .val (.ref b488), .val (.int (1 : Int32)), .val (.ref b488)] [(.int (1 : Int32))]))
            refine oT (fun _ k => XS.ifYes X495.here hx rfl (pc0 := 278) (pc' := 292) rfl (hb hby at_278) rfl (by decide) (by decide) (by decide) k) ?_
            refine oT (fun _ k => XS.aload X495.here hx rfl (hb hby at_292) rfl rfl k) ?_
            show own_goW _ _ _ _ _ _ _ _ _ _ (T495.setTop (mkF m 294 #[.val (.int p0), .val (.int p1), .val (.int p2), .val (.int p3), .val (.int p4), .val (.int z5), .val (.int (2 : Int32)), .val (.int c0), .val (.int c1), .val (.int c2), .val (.ref b488), .val (.int (1 : Int32)), .val (.ref b488)] [(.ref b488)]))
            refine oT (fun _ k => XS.ifnullNo X495.here hx rfl (hb hby at_294) rfl k) ?_
            refine oT (fun _ k => XS.aload X495.here hx rfl (hb hby at_297) rfl rfl k) ?_
            refine oT (fun _ k => XS.aload X495.here hx rfl (hb hby at_299) rfl rfl k) ?_
            show own_goW _ _ _ _ _ _ _ _ _ _ (T495.setTop (mkF m 301 #[.val (.int p0), .val (.int p1), .val (.int p2), .val (.int p3), .val (.int p4), .val (.int z5), .val (.int (2 : Int32)), .val (.int c0), .val (.int c1), .val (.int c2), .val (.ref b488), .val (.int (1 : Int32)), .val (.ref b488)] [(.ref b488), (.ref b488)]))
            obtain ⟨v497, T497, L497, X497, hQ497, st497⟩ := own_callV X495 hx hZ (argsL := [(.ref b488)]) (rest := []) (rm_eq l Z a0 hw b488 T489.heap n0 O489) hown (ow hw 110 rfl) (ow hw 111 rfl) (notFace_of_selects (args := #[]) (mvT hZ (ow hw 113 rfl))) (ow hw 113 rfl) (ow hw 112 rfl) (ow hw 6 rfl) (ow hw 114 rfl) (by decide) eq495 f496 (g := (mkF m 301 #[.val (.int p0), .val (.int p1), .val (.int p2), .val (.int p3), .val (.int p4), .val (.int z5), .val (.int (2 : Int32)), .val (.int c0), .val (.int c1), .val (.int c2), .val (.ref b488), .val (.int (1 : Int32)), .val (.ref b488)] [(.ref b488), (.ref b488)])) rfl (by rw [hml]; rfl) (lenOf own_pd__28Ljava_2flang_2fObject_3b_29Z rfl) rfl (W := 0) (by show 2 * 0 + _ ≤ _; exact Nat.le_of_eq rfl) (hb hby at_301) (by decide) (by decide) (by decide) (by decide)
            obtain ⟨rfl, Nq497, eq497⟩ := hQ497
            have N497 := Fr.app N495 Nq497
            refine oT st497 ?_
            show own_goW _ _ _ _ _ _ _ _ _ _ (T497.setTop (mkF m 304 #[.val (.int p0), .val (.int p1), .val (.int p2), .val (.int p3), .val (.int p4), .val (.int z5), .val (.int (2 : Int32)), .val (.int c0), .val (.int c1), .val (.int c2), .val (.ref b488), .val (.int (1 : Int32)), .val (.ref b488)] [(.int (1 : Int32))]))
            refine oT (fun _ k => XS.ifNo X497.here hx rfl (hb hby at_304) rfl (by decide) k) ?_
            refine oT (fun _ k => XS.iconst X497.here hx rfl (hb hby at_307) k) ?_
            refine oT (fun _ k => XS.goto X497.here hx rfl (pc0 := 308) (pc' := 312) rfl (hb hby at_308) (by decide) (by decide) k) ?_
            show own_goW _ _ _ _ _ _ _ _ _ _ (T497.setTop (mkF m 312 #[.val (.int p0), .val (.int p1), .val (.int p2), .val (.int p3), .val (.int p4), .val (.int z5), .val (.int (2 : Int32)), .val (.int c0), .val (.int c1), .val (.int c2), .val (.ref b488), .val (.int (1 : Int32)), .val (.ref b488)] [(.int (1 : Int32))]))
            exact own_retNW X497 hx hlk hS0 hkk489 hZ hEL Ck489 eq497 (t := .boolean) hret (by simp) rfl (hb hby at_312) (by decide) (by decide) (⟨rfl, N497⟩)
          · skip
            refine oT (fun _ k => XS.iload X489.here hx rfl (hb hby at_181) rfl k) ?_
            show own_goW _ _ _ _ _ _ _ _ _ _ (T489.setTop (mkF m 183 #[.val (.int p0), .val (.int p1), .val (.int p2), .val (.int p3), .val (.int p4), .val (.int z5), .val (.int (2 : Int32)), .val (.int c0), .val (.int c1), .val (.int c2), .val (.ref b488), .unset, .val (.ref b483)] [(.int c0)]))
            obtain ⟨v498, T498, L498, X498, hQ498, st498⟩ := own_callS X489 hx hZ (argsL := [(.int c0)]) (rest := []) (rm_pr1 l Z a0 hw c0 T489.heap n0 O489 hc491) hown (ow hw 46 rfl) (ow hw 47 rfl) (ow hw 2 rfl) (ow hw 48 rfl) (by decide) rfl (g := (mkF m 183 #[.val (.int p0), .val (.int p1), .val (.int p2), .val (.int p3), .val (.int p4), .val (.int z5), .val (.int (2 : Int32)), .val (.int c0), .val (.int c1), .val (.int c2), .val (.ref b488), .unset, .val (.ref b483)] [(.int c0)])) rfl (by rw [hml]; rfl) (lenOf own_pd__28C_29Z rfl) rfl (W := 0) (by show 2 * 0 + _ ≤ _; exact Nat.le_of_eq rfl) (hb hby at_183) (by decide) (by decide) (by decide) (by decide)
            obtain ⟨rfl, Nq498, eq498⟩ := hQ498
            have N498 := Fr.app N489 Nq498
            refine oT st498 ?_
            show own_goW _ _ _ _ _ _ _ _ _ _ (T498.setTop (mkF m 186 #[.val (.int p0), .val (.int p1), .val (.int p2), .val (.int p3), .val (.int p4), .val (.int z5), .val (.int (2 : Int32)), .val (.int c0), .val (.int c1), .val (.int c2), .val (.ref b488), .unset, .val (.ref b483)] [(.int (1 : Int32))]))
            refine oT (fun _ k => XS.ifNo X498.here hx rfl (hb hby at_186) rfl (by decide) k) ?_
            refine oT (fun _ k => XS.iload X498.here hx rfl (hb hby at_189) rfl k) ?_
            show own_goW _ _ _ _ _ _ _ _ _ _ (T498.setTop (mkF m 191 #[.val (.int p0), .val (.int p1), .val (.int p2), .val (.int p3), .val (.int p4), .val (.int z5), .val (.int (2 : Int32)), .val (.int c0), .val (.int c1), .val (.int c2), .val (.ref b488), .unset, .val (.ref b483)] [(.int c1)]))
            obtain ⟨v499, T499, L499, X499, hQ499, st499⟩ := own_callS X498 hx hZ (argsL := [(.int c1)]) (rest := []) (rm_pr0 l Z a0 hw c1 T489.heap n0 O489 hc492) hown (ow hw 46 rfl) (ow hw 47 rfl) (ow hw 2 rfl) (ow hw 48 rfl) (by decide) eq498 (g := (mkF m 191 #[.val (.int p0), .val (.int p1), .val (.int p2), .val (.int p3), .val (.int p4), .val (.int z5), .val (.int (2 : Int32)), .val (.int c0), .val (.int c1), .val (.int c2), .val (.ref b488), .unset, .val (.ref b483)] [(.int c1)])) rfl (by rw [hml]; rfl) (lenOf own_pd__28C_29Z rfl) rfl (W := 0) (by show 2 * 0 + _ ≤ _; exact Nat.le_of_eq rfl) (hb hby at_191) (by decide) (by decide) (by decide) (by decide)
            obtain ⟨rfl, Nq499, eq499⟩ := hQ499
            have N499 := Fr.app N498 Nq499
            refine oT st499 ?_
            show own_goW _ _ _ _ _ _ _ _ _ _ (T499.setTop (mkF m 194 #[.val (.int p0), .val (.int p1), .val (.int p2), .val (.int p3), .val (.int p4), .val (.int z5), .val (.int (2 : Int32)), .val (.int c0), .val (.int c1), .val (.int c2), .val (.ref b488), .unset, .val (.ref b483)] [(.int (0 : Int32))]))
            refine oT (fun _ k => XS.ifYes X499.here hx rfl (pc0 := 194) (pc' := 201) rfl (hb hby at_194) rfl (by decide) (by decide) (by decide) k) ?_
            refine oT (fun _ k => XS.iconst X499.here hx rfl (hb hby at_201) k) ?_
            refine oT (fun _ k => XS.istore X499.here hx rfl (hb hby at_202) rfl (l' := #[.val (.int p0), .val (.int p1), .val (.int p2), .val (.int p3), .val (.int p4), .val (.int z5), .val (.int (2 : Int32)), .val (.int c0), .val (.int c1), .val (.int c2), .val (.ref b488), .val (.int (0 : Int32)), .val (.ref b483)]) rfl k) ?_
            refine oT (fun _ k => XS.goto X499.here hx rfl (pc0 := 204) (pc' := 269) rfl (hb hby at_204) (by decide) (by decide) k) ?_
            refine oT (fun _ k => XS.aload X499.here hx rfl (hb hby at_269) rfl rfl k) ?_
            show own_goW _ _ _ _ _ _ _ _ _ _ (T499.setTop (mkF m 271 #[.val (.int p0), .val (.int p1), .val (.int p2), .val (.int p3), .val (.int p4), .val (.int z5), .val (.int (2 : Int32)), .val (.int c0), .val (.int c1), .val (.int c2), .val (.ref b488), .val (.int (0 : Int32)), .val (.ref b483)] [(.ref b488)]))
            have f501 := (A488.keep Kq489)
            obtain ⟨v500, T500, L500, X500, hQ500, st500⟩ := own_callS X499 hx hZ (argsL := [(.ref b488)]) (rest := []) (rm_kp_2 l Z a0 hw b488 t489 kt489 c0 c1 zC vS T489.heap n0 O489 hS f501 U489 hc0 hc1 D489) hown (ow hw 26 rfl) (ow hw 27 rfl) (ow hw 28 rfl) (ow hw 29 rfl) (by decide) eq499 (g := (mkF m 271 #[.val (.int p0), .val (.int p1), .val (.int p2), .val (.int p3), .val (.int p4), .val (.int z5), .val (.int (2 : Int32)), .val (.int c0), .val (.int c1), .val (.int c2), .val (.ref b488), .val (.int (0 : Int32)), .val (.ref b483)] [(.ref b488)])) rfl (by rw [hml]; rfl) (lenOf own_pd__28Ljava_2flang_2fString_3b_29Ljava_2flang_2fString_3b rfl) rfl (W := 0) (by show 2 * 0 + _ ≤ _; exact Nat.le_of_eq rfl) (hb hby at_271) (by decide) (by decide) (by decide) (by decide)
            obtain ⟨w500, rfl, Nq500, eq500, iA500, iB500⟩ := hQ500
            have N500 := Fr.app N499 Nq500
            obtain rfl := iB500 (fun q => absurd q.2 hc492)
            refine oT st500 ?_
            show own_goW _ _ _ _ _ _ _ _ _ _ (T500.setTop (mkF m 274 #[.val (.int p0), .val (.int p1), .val (.int p2), .val (.int p3), .val (.int p4), .val (.int z5), .val (.int (2 : Int32)), .val (.int c0), .val (.int c1), .val (.int c2), .val (.ref b488), .val (.int (0 : Int32)), .val (.ref b483)] [.null]))
            refine oT (fun _ k => XS.astore X500.here hx rfl (hb hby at_274) rfl rfl (l' := #[.val (.int p0), .val (.int p1), .val (.int p2), .val (.int p3), .val (.int p4), .val (.int z5), .val (.int (2 : Int32)), .val (.int c0), .val (.int c1), .val (.int c2), .val (.ref b488), .val (.int (0 : Int32)), .val .null]) rfl k) ?_
            refine oT (fun _ k => XS.iload X500.here hx rfl (hb hby at_276) rfl k) ?_
            show own_goW _ _ _ _ _ _ _ _ _ _ (T500.setTop (mkF m 278 #[.val (.int p0), .val (.int p1), .val (.int p2), .val (.int p3), .val (.int p4), .val (.int z5), .val (.int (2 : Int32)), .val (.int c0), .val (.int c1), .val (.int c2), .val (.ref b488), .val (.int (0 : Int32)), .val .null] [(.int (0 : Int32))]))
            refine oT (fun _ k => XS.ifNo X500.here hx rfl (hb hby at_278) rfl (by decide) k) ?_
            refine oT (fun _ k => XS.aload X500.here hx rfl (hb hby at_281) rfl rfl k) ?_
            show own_goW _ _ _ _ _ _ _ _ _ _ (T500.setTop (mkF m 283 #[.val (.int p0), .val (.int p1), .val (.int p2), .val (.int p3), .val (.int p4), .val (.int z5), .val (.int (2 : Int32)), .val (.int c0), .val (.int c1), .val (.int c2), .val (.ref b488), .val (.int (0 : Int32)), .val .null] [.null]))
            refine oT (fun _ k => XS.ifnonnullNo X500.here hx rfl (hb hby at_283) rfl k) ?_
            refine oT (fun _ k => XS.iconst X500.here hx rfl (hb hby at_286) k) ?_
            refine oT (fun _ k => XS.goto X500.here hx rfl (pc0 := 287) (pc' := 291) rfl (hb hby at_287) (by decide) (by decide) k) ?_
            show own_goW _ _ _ _ _ _ _ _ _ _ (T500.setTop (mkF m 291 #[.val (.int p0), .val (.int p1), .val (.int p2), .val (.int p3), .val (.int p4), .val (.int z5), .val (.int (2 : Int32)), .val (.int c0), .val (.int c1), .val (.int c2), .val (.ref b488), .val (.int (0 : Int32)), .val .null] [(.int (1 : Int32))]))
            exact own_retNW X500 hx hlk hS0 hkk489 hZ hEL Ck489 eq500 (t := .boolean) hret (by simp) rfl (hb hby at_291) (by decide) (by decide) (⟨rfl, N500⟩)
        · skip
          refine oT (fun _ k => XS.iload X489.here hx rfl (hb hby at_181) rfl k) ?_
          show own_goW _ _ _ _ _ _ _ _ _ _ (T489.setTop (mkF m 183 #[.val (.int p0), .val (.int p1), .val (.int p2), .val (.int p3), .val (.int p4), .val (.int z5), .val (.int (2 : Int32)), .val (.int c0), .val (.int c1), .val (.int c2), .val (.ref b488), .unset, .val (.ref b483)] [(.int c0)]))
          obtain ⟨v502, T502, L502, X502, hQ502, st502⟩ := own_callS X489 hx hZ (argsL := [(.int c0)]) (rest := []) (rm_pr0 l Z a0 hw c0 T489.heap n0 O489 hc491) hown (ow hw 46 rfl) (ow hw 47 rfl) (ow hw 2 rfl) (ow hw 48 rfl) (by decide) rfl (g := (mkF m 183 #[.val (.int p0), .val (.int p1), .val (.int p2), .val (.int p3), .val (.int p4), .val (.int z5), .val (.int (2 : Int32)), .val (.int c0), .val (.int c1), .val (.int c2), .val (.ref b488), .unset, .val (.ref b483)] [(.int c0)])) rfl (by rw [hml]; rfl) (lenOf own_pd__28C_29Z rfl) rfl (W := 0) (by show 2 * 0 + _ ≤ _; exact Nat.le_of_eq rfl) (hb hby at_183) (by decide) (by decide) (by decide) (by decide)
          obtain ⟨rfl, Nq502, eq502⟩ := hQ502
          have N502 := Fr.app N489 Nq502
          refine oT st502 ?_
          show own_goW _ _ _ _ _ _ _ _ _ _ (T502.setTop (mkF m 186 #[.val (.int p0), .val (.int p1), .val (.int p2), .val (.int p3), .val (.int p4), .val (.int z5), .val (.int (2 : Int32)), .val (.int c0), .val (.int c1), .val (.int c2), .val (.ref b488), .unset, .val (.ref b483)] [(.int (0 : Int32))]))
          refine oT (fun _ k => XS.ifYes X502.here hx rfl (pc0 := 186) (pc' := 201) rfl (hb hby at_186) rfl (by decide) (by decide) (by decide) k) ?_
          refine oT (fun _ k => XS.iconst X502.here hx rfl (hb hby at_201) k) ?_
          refine oT (fun _ k => XS.istore X502.here hx rfl (hb hby at_202) rfl (l' := #[.val (.int p0), .val (.int p1), .val (.int p2), .val (.int p3), .val (.int p4), .val (.int z5), .val (.int (2 : Int32)), .val (.int c0), .val (.int c1), .val (.int c2), .val (.ref b488), .val (.int (0 : Int32)), .val (.ref b483)]) rfl k) ?_
          refine oT (fun _ k => XS.goto X502.here hx rfl (pc0 := 204) (pc' := 269) rfl (hb hby at_204) (by decide) (by decide) k) ?_
          refine oT (fun _ k => XS.aload X502.here hx rfl (hb hby at_269) rfl rfl k) ?_
          show own_goW _ _ _ _ _ _ _ _ _ _ (T502.setTop (mkF m 271 #[.val (.int p0), .val (.int p1), .val (.int p2), .val (.int p3), .val (.int p4), .val (.int z5), .val (.int (2 : Int32)), .val (.int c0), .val (.int c1), .val (.int c2), .val (.ref b488), .val (.int (0 : Int32)), .val (.ref b483)] [(.ref b488)]))
          have f504 := (A488.keep Kq489)
          obtain ⟨v503, T503, L503, X503, hQ503, st503⟩ := own_callS X502 hx hZ (argsL := [(.ref b488)]) (rest := []) (rm_kp_2 l Z a0 hw b488 t489 kt489 c0 c1 zC vS T489.heap n0 O489 hS f504 U489 hc0 hc1 D489) hown (ow hw 26 rfl) (ow hw 27 rfl) (ow hw 28 rfl) (ow hw 29 rfl) (by decide) eq502 (g := (mkF m 271 #[.val (.int p0), .val (.int p1), .val (.int p2), .val (.int p3), .val (.int p4), .val (.int z5), .val (.int (2 : Int32)), .val (.int c0), .val (.int c1), .val (.int c2), .val (.ref b488), .val (.int (0 : Int32)), .val (.ref b483)] [(.ref b488)])) rfl (by rw [hml]; rfl) (lenOf own_pd__28Ljava_2flang_2fString_3b_29Ljava_2flang_2fString_3b rfl) rfl (W := 0) (by show 2 * 0 + _ ≤ _; exact Nat.le_of_eq rfl) (hb hby at_271) (by decide) (by decide) (by decide) (by decide)
          obtain ⟨w503, rfl, Nq503, eq503, iA503, iB503⟩ := hQ503
          have N503 := Fr.app N502 Nq503
          obtain rfl := iB503 (fun q => absurd q.1 hc491)
          refine oT st503 ?_
          show own_goW _ _ _ _ _ _ _ _ _ _ (T503.setTop (mkF m 274 #[.val (.int p0), .val (.int p1), .val (.int p2), .val (.int p3), .val (.int p4), .val (.int z5), .val (.int (2 : Int32)), .val (.int c0), .val (.int c1), .val (.int c2), .val (.ref b488), .val (.int (0 : Int32)), .val (.ref b483)] [.null]))
          refine oT (fun _ k => XS.astore X503.here hx rfl (hb hby at_274) rfl rfl (l' := #[.val (.int p0), .val (.int p1), .val (.int p2), .val (.int p3), .val (.int p4), .val (.int z5), .val (.int (2 : Int32)), .val (.int c0), .val (.int c1), .val (.int c2), .val (.ref b488), .val (.int (0 : Int32)), .val .null]) rfl k) ?_
          refine oT (fun _ k => XS.iload X503.here hx rfl (hb hby at_276) rfl k) ?_
          show own_goW _ _ _ _ _ _ _ _ _ _ (T503.setTop (mkF m 278 #[.val (.int p0), .val (.int p1), .val (.int p2), .val (.int p3), .val (.int p4), .val (.int z5), .val (.int (2 : Int32)), .val (.int c0), .val (.int c1), .val (.int c2), .val (.ref b488), .val (.int (0 : Int32)), .val .null] [(.int (0 : Int32))]))
          refine oT (fun _ k => XS.ifNo X503.here hx rfl (hb hby at_278) rfl (by decide) k) ?_
          refine oT (fun _ k => XS.aload X503.here hx rfl (hb hby at_281) rfl rfl k) ?_
          show own_goW _ _ _ _ _ _ _ _ _ _ (T503.setTop (mkF m 283 #[.val (.int p0), .val (.int p1), .val (.int p2), .val (.int p3), .val (.int p4), .val (.int z5), .val (.int (2 : Int32)), .val (.int c0), .val (.int c1), .val (.int c2), .val (.ref b488), .val (.int (0 : Int32)), .val .null] [.null]))
          refine oT (fun _ k => XS.ifnonnullNo X503.here hx rfl (hb hby at_283) rfl k) ?_
          refine oT (fun _ k => XS.iconst X503.here hx rfl (hb hby at_286) k) ?_
          refine oT (fun _ k => XS.goto X503.here hx rfl (pc0 := 287) (pc' := 291) rfl (hb hby at_287) (by decide) (by decide) k) ?_
          show own_goW _ _ _ _ _ _ _ _ _ _ (T503.setTop (mkF m 291 #[.val (.int p0), .val (.int p1), .val (.int p2), .val (.int p3), .val (.int p4), .val (.int z5), .val (.int (2 : Int32)), .val (.int c0), .val (.int c1), .val (.int c2), .val (.ref b488), .val (.int (0 : Int32)), .val .null] [(.int (1 : Int32))]))
          exact own_retNW X503 hx hlk hS0 hkk489 hZ hEL Ck489 eq503 (t := .boolean) hret (by simp) rfl (hb hby at_291) (by decide) (by decide) (⟨rfl, N503⟩)
      · skip
        show own_goW _ _ _ _ _ _ _ _ _ _ (Tt.setTop (mkF m 89 #[.val (.int p0), .val (.int p1), .val (.int p2), .val (.int p3), .val (.int p4), .val (.int z5), .val (.int n6), .val (.int c0), .val (.int c1), .val (.int c2), .unset, .unset, .unset] []))
        rw [q]
        show own_goW _ _ _ _ _ _ _ _ _ _ (Tt.setTop (mkF m 89 #[.val (.int p0), .val (.int p1), .val (.int p2), .val (.int p3), .val (.int p4), .val (.int z5), .val (.int (3 : Int32)), .val (.int c0), .val (.int c1), .val (.int c2), .unset, .unset, .unset] []))
        refine oT (fun _ k => XS.iload Xt.here hx rfl (hb hby at_89) rfl k) ?_
        show own_goW _ _ _ _ _ _ _ _ _ _ (Tt.setTop (mkF m 91 #[.val (.int p0), .val (.int p1), .val (.int p2), .val (.int p3), .val (.int p4), .val (.int z5), .val (.int (3 : Int32)), .val (.int c0), .val (.int c1), .val (.int c2), .unset, .unset, .unset] [(.int (3 : Int32))]))
        refine oT (fun _ k => XS.ifYes Xt.here hx rfl (pc0 := 91) (pc' := 112) rfl (hb hby at_91) rfl (by decide) (by decide) (by decide) k) ?_
        refine oT (fun _ k => XS.iload Xt.here hx rfl (hb hby at_112) rfl k) ?_
        refine oT (fun _ k => XS.iconst Xt.here hx rfl (hb hby at_114) k) ?_
        show own_goW _ _ _ _ _ _ _ _ _ _ (Tt.setTop (mkF m 115 #[.val (.int p0), .val (.int p1), .val (.int p2), .val (.int p3), .val (.int p4), .val (.int z5), .val (.int (3 : Int32)), .val (.int c0), .val (.int c1), .val (.int c2), .unset, .unset, .unset] [(.int (1 : Int32)), (.int (3 : Int32))]))
        refine oT (fun _ k => XS.icmpYes Xt.here hx rfl (pc0 := 115) (pc' := 149) rfl (hb hby at_115) rfl (by decide) (by decide) (by decide) k) ?_
        refine oT (fun _ k => XS.iload Xt.here hx rfl (hb hby at_149) rfl k) ?_
        refine oT (fun _ k => XS.iconst Xt.here hx rfl (hb hby at_151) k) ?_
        show own_goW _ _ _ _ _ _ _ _ _ _ (Tt.setTop (mkF m 152 #[.val (.int p0), .val (.int p1), .val (.int p2), .val (.int p3), .val (.int p4), .val (.int z5), .val (.int (3 : Int32)), .val (.int c0), .val (.int c1), .val (.int c2), .unset, .unset, .unset] [(.int (2 : Int32)), (.int (3 : Int32))]))
        refine oT (fun _ k => XS.icmpYes Xt.here hx rfl (pc0 := 152) (pc' := 207) rfl (hb hby at_152) rfl (by decide) (by decide) (by decide) k) ?_
        refine oT (fun _ k => XS.iconst Xt.here hx rfl (hb hby at_207) k) ?_
        show own_goW _ _ _ _ _ _ _ _ _ _ (Tt.setTop (mkF m 208 #[.val (.int p0), .val (.int p1), .val (.int p2), .val (.int p3), .val (.int p4), .val (.int z5), .val (.int (3 : Int32)), .val (.int c0), .val (.int c1), .val (.int c2), .unset, .unset, .unset] [(.int (3 : Int32))]))
        obtain ⟨T505, h505, k505, b505, X505, e505, g505, E505, V505, st505⟩ := own_newP Xt hx hZ (aty := .char) (ow hw 7 rfl) et (g := (mkF m 208 #[.val (.int p0), .val (.int p1), .val (.int p2), .val (.int p3), .val (.int p4), .val (.int z5), .val (.int (3 : Int32)), .val (.int c0), .val (.int c1), .val (.int c2), .unset, .unset, .unset] [(.int (3 : Int32))])) rfl (hb hby at_208) rfl (by decide) (cap := 3) (by decide) (by decide) (by decide) (by decide)
        replace V505 : Arv Z h505 b505 k505 .char (3 : Int32) [(.int (0 : Int32)), (.int (0 : Int32)), (.int (0 : Int32))] (.int (0 : Int32)) := V505
        have ge_b505 : n0 ≤ b505 := by rw [g505]; exact own_osz O0
        have sz_b505 : h0.size ≤ b505 := by rw [g505]; exact K0.1
        have O505 := O0.ext E505
        have K505 := K0.ext E505
        have Ce505 := C0.trans (CHr.ext E505 C0.1)
        have hke505 := Nat.le_trans hk0 E505.1
        refine oT st505 ?_
        show own_goW _ _ _ _ _ _ _ _ _ _ (T505.setTop (mkF m 210 #[.val (.int p0), .val (.int p1), .val (.int p2), .val (.int p3), .val (.int p4), .val (.int z5), .val (.int (3 : Int32)), .val (.int c0), .val (.int c1), .val (.int c2), .unset, .unset, .unset] [(.ref b505)]))
        refine oT (fun _ k => XS.dup X505.here hx rfl (hb hby at_210) rfl rfl k) ?_
        refine oT (fun _ k => XS.iconst X505.here hx rfl (hb hby at_211) k) ?_
        refine oT (fun _ k => XS.iload X505.here hx rfl (hb hby at_212) rfl k) ?_
        show own_goW _ _ _ _ _ _ _ _ _ _ (T505.setTop (mkF m 214 #[.val (.int p0), .val (.int p1), .val (.int p2), .val (.int p3), .val (.int p4), .val (.int z5), .val (.int (3 : Int32)), .val (.int c0), .val (.int c1), .val (.int c2), .unset, .unset, .unset] [(.int c0), (.int (0 : Int32)), (.ref b505), (.ref b505)]))
        obtain ⟨T506, h506, X506, e506, W506, V506, st506⟩ := own_putC X505 hx hZ e505 V505 (y := c0) (own_narC hc0) (j := (0 : Int32)) (by decide) 0 (by decide) (by show 0 < 3; decide) (g := (mkF m 214 #[.val (.int p0), .val (.int p1), .val (.int p2), .val (.int p3), .val (.int p4), .val (.int z5), .val (.int (3 : Int32)), .val (.int c0), .val (.int c1), .val (.int c2), .unset, .unset, .unset] [(.int c0), (.int (0 : Int32)), (.ref b505), (.ref b505)])) rfl rfl (hb hby at_214)
        have N506 := Fr.snoc X506 Nt ge_b505
        replace V506 : Arv Z h506 b505 k505 .char (3 : Int32) [(.int c0), (.int (0 : Int32)), (.int (0 : Int32))] (.int (0 : Int32)) := V506
        have sf507 : Safe Z consts_1 s.vm h505 b505 := (own_safeV hZ.alike V505 (by decide))
        have Cw507 := Ce505.trans (CHr.wr W506 sf507 Ce505.1)
        have hkw507 := Nat.le_trans hke505 (Keep.of_wr W506).1
        have O507 := O505.wr W506 ge_b505
        have K507 := K505.wr W506 (Or.inr sz_b505)
        refine oT st506 ?_
        show own_goW _ _ _ _ _ _ _ _ _ _ (T506.setTop (mkF m 215 #[.val (.int p0), .val (.int p1), .val (.int p2), .val (.int p3), .val (.int p4), .val (.int z5), .val (.int (3 : Int32)), .val (.int c0), .val (.int c1), .val (.int c2), .unset, .unset, .unset] [(.ref b505)]))
        refine oT (fun _ k => XS.dup X506.here hx rfl (hb hby at_215) rfl rfl k) ?_
        refine oT (fun _ k => XS.iconst X506.here hx rfl (hb hby at_216) k) ?_
        refine oT (fun _ k => XS.iload X506.here hx rfl (hb hby at_217) rfl k) ?_
        show own_goW _ _ _ _ _ _ _ _ _ _ (T506.setTop (mkF m 219 #[.val (.int p0), .val (.int p1), .val (.int p2), .val (.int p3), .val (.int p4), .val (.int z5), .val (.int (3 : Int32)), .val (.int c0), .val (.int c1), .val (.int c2), .unset, .unset, .unset] [(.int c1), (.int (1 : Int32)), (.ref b505), (.ref b505)]))
        obtain ⟨T508, h508, X508, e508, W508, V508, st508⟩ := own_putC X506 hx hZ e506 V506 (y := c1) (own_narC hc1) (j := (1 : Int32)) (by decide) 1 (by decide) (by show 1 < 3; decide) (g := (mkF m 219 #[.val (.int p0), .val (.int p1), .val (.int p2), .val (.int p3), .val (.int p4), .val (.int z5), .val (.int (3 : Int32)), .val (.int c0), .val (.int c1), .val (.int c2), .unset, .unset, .unset] [(.int c1), (.int (1 : Int32)), (.ref b505), (.ref b505)])) rfl rfl (hb hby at_219)
        have N508 := Fr.snoc X508 N506 ge_b505
        replace V508 : Arv Z h508 b505 k505 .char (3 : Int32) [(.int c0), (.int c1), (.int (0 : Int32))] (.int (0 : Int32)) := V508
        have sf509 : Safe Z consts_1 s.vm h506 b505 := (own_safeV hZ.alike V506 (by decide))
        have Cw509 := Cw507.trans (CHr.wr W508 sf509 Cw507.1)
        have hkw509 := Nat.le_trans hkw507 (Keep.of_wr W508).1
        have O509 := O507.wr W508 ge_b505
        have K509 := K507.wr W508 (Or.inr sz_b505)
        refine oT st508 ?_
        show own_goW _ _ _ _ _ _ _ _ _ _ (T508.setTop (mkF m 220 #[.val (.int p0), .val (.int p1), .val (.int p2), .val (.int p3), .val (.int p4), .val (.int z5), .val (.int (3 : Int32)), .val (.int c0), .val (.int c1), .val (.int c2), .unset, .unset, .unset] [(.ref b505)]))
        refine oT (fun _ k => XS.dup X508.here hx rfl (hb hby at_220) rfl rfl k) ?_
        refine oT (fun _ k => XS.iconst X508.here hx rfl (hb hby at_221) k) ?_
        refine oT (fun _ k => XS.iload X508.here hx rfl (hb hby at_222) rfl k) ?_
        show own_goW _ _ _ _ _ _ _ _ _ _ (T508.setTop (mkF m 224 #[.val (.int p0), .val (.int p1), .val (.int p2), .val (.int p3), .val (.int p4), .val (.int z5), .val (.int (3 : Int32)), .val (.int c0), .val (.int c1), .val (.int c2), .unset, .unset, .unset] [(.int c2), (.int (2 : Int32)), (.ref b505), (.ref b505)]))
        obtain ⟨T510, h510, X510, e510, W510, V510, st510⟩ := own_putC X508 hx hZ e508 V508 (y := c2) (own_narC hc2) (j := (2 : Int32)) (by decide) 2 (by decide) (by show 2 < 3; decide) (g := (mkF m 224 #[.val (.int p0), .val (.int p1), .val (.int p2), .val (.int p3), .val (.int p4), .val (.int z5), .val (.int (3 : Int32)), .val (.int c0), .val (.int c1), .val (.int c2), .unset, .unset, .unset] [(.int c2), (.int (2 : Int32)), (.ref b505), (.ref b505)])) rfl rfl (hb hby at_224)
        have N510 := Fr.snoc X510 N508 ge_b505
        replace V510 : Arv Z h510 b505 k505 .char (3 : Int32) [(.int c0), (.int c1), (.int c2)] (.int (0 : Int32)) := V510
        have sf511 : Safe Z consts_1 s.vm h508 b505 := (own_safeV hZ.alike V508 (by decide))
        have Cw511 := Cw509.trans (CHr.wr W510 sf511 Cw509.1)
        have hkw511 := Nat.le_trans hkw509 (Keep.of_wr W510).1
        have O511 := O509.wr W510 ge_b505
        have K511 := K509.wr W510 (Or.inr sz_b505)
        refine oT st510 ?_
        show own_goW _ _ _ _ _ _ _ _ _ _ (T510.setTop (mkF m 225 #[.val (.int p0), .val (.int p1), .val (.int p2), .val (.int p3), .val (.int p4), .val (.int z5), .val (.int (3 : Int32)), .val (.int c0), .val (.int c1), .val (.int c2), .unset, .unset, .unset] [(.ref b505)]))
        refine oT (fun _ k => XS.astore X510.here hx rfl (hb hby at_225) rfl rfl (l' := #[.val (.int p0), .val (.int p1), .val (.int p2), .val (.int p3), .val (.int p4), .val (.int z5), .val (.int (3 : Int32)), .val (.int c0), .val (.int c1), .val (.int c2), .unset, .unset, .val (.ref b505)]) rfl k) ?_
        show own_goW _ _ _ _ _ _ _ _ _ _ (T510.setTop (mkF m 227 #[.val (.int p0), .val (.int p1), .val (.int p2), .val (.int p3), .val (.int p4), .val (.int z5), .val (.int (3 : Int32)), .val (.int c0), .val (.int c1), .val (.int c2), .unset, .unset, .val (.ref b505)] []))
        obtain ⟨T512, h512, X512, e512, E512, A512, D512, -, st512⟩ := newO X510 hx hZ hown (ow hw 4 rfl) (ow hw 5 rfl) (ow hw 6 rfl) e510 (g := (mkF m 227 #[.val (.int p0), .val (.int p1), .val (.int p2), .val (.int p3), .val (.int p4), .val (.int z5), .val (.int (3 : Int32)), .val (.int c0), .val (.int c1), .val (.int c2), .unset, .unset, .val (.ref b505)] [])) rfl (hb hby at_227) (by decide) (by decide)
        obtain ⟨b512, g512⟩ : ∃ z, z = h510.size := ⟨_, rfl⟩
        rw [← g512] at A512 D512 st512
        have ge_b512 : n0 ≤ b512 := by rw [g512]; exact own_osz O511
        have sz_b512 : h0.size ≤ b512 := by rw [g512]; exact K511.1
        have ne_b505_b512 : b505 ≠ b512 := (fun q => absurd V510.lt (by rw [q, g512]; exact Nat.lt_irrefl _))
        have O512 := O511.ext E512
        have K512 := K511.ext E512
        have Ce512 := Cw511.trans (CHr.ext E512 Cw511.1)
        have hke512 := Nat.le_trans hkw511 E512.1
        refine oT st512 ?_
        show own_goW _ _ _ _ _ _ _ _ _ _ (T512.setTop (mkF m 230 #[.val (.int p0), .val (.int p1), .val (.int p2), .val (.int p3), .val (.int p4), .val (.int z5), .val (.int (3 : Int32)), .val (.int c0), .val (.int c1), .val (.int c2), .unset, .unset, .val (.ref b505)] [(.ref b512)]))
        refine oT (fun _ k => XS.dup X512.here hx rfl (hb hby at_230) rfl rfl k) ?_
        refine oT (fun _ k => XS.aload X512.here hx rfl (hb hby at_231) rfl rfl k) ?_
        show own_goW _ _ _ _ _ _ _ _ _ _ (T512.setTop (mkF m 233 #[.val (.int p0), .val (.int p1), .val (.int p2), .val (.int p3), .val (.int p4), .val (.int z5), .val (.int (3 : Int32)), .val (.int c0), .val (.int c1), .val (.int c2), .unset, .unset, .val (.ref b505)] [(.ref b505), (.ref b512), (.ref b512)]))
        have f514 := (V510.ext E512)
        obtain ⟨v513, T513, L513, X513, hQ513, st513⟩ := own_callN X512 hx hZ (argsL := [(.ref b505)]) (rest := [(.ref b512)]) (rm_s1_3 l Z a0 hw b512 b505 k505 c0 c1 c2 zC vS h512 n0 O512 hS ge_b512 A512 (D512 (Or.inr (ow hw 20 rfl)) (ty := (.array .byte)) (by decide)) (D512 (Or.inr (ow hw 21 rfl)) (ty := .byte) (by decide)) f514 hc0 hc1 hc2) rfl hown (ow hw 8 rfl) (ow hw 9 rfl) (ow hw 6 rfl) (ow hw 10 rfl) (by decide) e512 (g := (mkF m 233 #[.val (.int p0), .val (.int p1), .val (.int p2), .val (.int p3), .val (.int p4), .val (.int z5), .val (.int (3 : Int32)), .val (.int c0), .val (.int c1), .val (.int c2), .unset, .unset, .val (.ref b505)] [(.ref b505), (.ref b512), (.ref b512)])) rfl (by rw [hml]; rfl) (lenOf own_pd__28_5bC_29V rfl) rfl (W := 1) (by show 2 * 0 + _ ≤ _; exact Nat.le_of_eq rfl) (hb hby at_233) (by decide) (by decide) (by decide) (by decide)
        obtain ⟨rfl, Nq513, Kq513, t513, kt513, sz513, U513, D513⟩ := hQ513
        have N513 := Fr.app N510 Nq513
        have ne_b505_t513 : b505 ≠ t513 := (Nat.ne_of_lt (Nat.lt_of_lt_of_le f514.lt sz513))
        have ne_b512_t513 : b512 ≠ t513 := (Nat.ne_of_lt (Nat.lt_of_lt_of_le A512.lt sz513))
        have Ck513 := Ce512.trans (CHr.keep Kq513 (allS (own_safeS hZ.alike A512 (D512 (Or.inr (ow hw 20 rfl)) (ty := (.array .byte)) (by decide))) all0) Ce512.1)
        have hkk513 := Nat.le_trans hke512 Kq513.1
        have O513 := O512.keep Kq513 (allS ge_b512 all0)
        have K513 := K512.trans Kq513 (allS (Or.inr sz_b512) all0)
        refine oT st513 ?_
        show own_goW _ _ _ _ _ _ _ _ _ _ (T513.setTop (mkF m 236 #[.val (.int p0), .val (.int p1), .val (.int p2), .val (.int p3), .val (.int p4), .val (.int z5), .val (.int (3 : Int32)), .val (.int c0), .val (.int c1), .val (.int c2), .unset, .unset, .val (.ref b505)] [(.ref b512)]))
        refine oT (fun _ k => XS.astore X513.here hx rfl (hb hby at_236) rfl rfl (l' := #[.val (.int p0), .val (.int p1), .val (.int p2), .val (.int p3), .val (.int p4), .val (.int z5), .val (.int (3 : Int32)), .val (.int c0), .val (.int c1), .val (.int c2), .val (.ref b512), .unset, .val (.ref b505)]) rfl k) ?_
        show own_goW _ _ _ _ _ _ _ _ _ _ (T513.setTop (mkF m 238 #[.val (.int p0), .val (.int p1), .val (.int p2), .val (.int p3), .val (.int p4), .val (.int z5), .val (.int (3 : Int32)), .val (.int c0), .val (.int c1), .val (.int c2), .val (.ref b512), .unset, .val (.ref b505)] []))
        by_cases hc515 : own_ok c0
        · skip
          show own_goW _ _ _ _ _ _ _ _ _ _ (T513.setTop (mkF m 238 #[.val (.int p0), .val (.int p1), .val (.int p2), .val (.int p3), .val (.int p4), .val (.int z5), .val (.int (3 : Int32)), .val (.int c0), .val (.int c1), .val (.int c2), .val (.ref b512), .unset, .val (.ref b505)] []))
          by_cases hc516 : own_ok c1
          · skip
            show own_goW _ _ _ _ _ _ _ _ _ _ (T513.setTop (mkF m 238 #[.val (.int p0), .val (.int p1), .val (.int p2), .val (.int p3), .val (.int p4), .val (.int z5), .val (.int (3 : Int32)), .val (.int c0), .val (.int c1), .val (.int c2), .val (.ref b512), .unset, .val (.ref b505)] []))
            by_cases hc517 : own_ok c2
            · skip
              refine oT (fun _ k => XS.iload X513.here hx rfl (hb hby at_238) rfl k) ?_
              show own_goW _ _ _ _ _ _ _ _ _ _ (T513.setTop (mkF m 240 #[.val (.int p0), .val (.int p1), .val (.int p2), .val (.int p3), .val (.int p4), .val (.int z5), .val (.int (3 : Int32)), .val (.int c0), .val (.int c1), .val (.int c2), .val (.ref b512), .unset, .val (.ref b505)] [(.int c0)]))
              obtain ⟨v518, T518, L518, X518, hQ518, st518⟩ := own_callS X513 hx hZ (argsL := [(.int c0)]) (rest := []) (rm_pr1 l Z a0 hw c0 T513.heap n0 O513 hc515) hown (ow hw 46 rfl) (ow hw 47 rfl) (ow hw 2 rfl) (ow hw 48 rfl) (by decide) rfl (g := (mkF m 240 #[.val (.int p0), .val (.int p1), .val (.int p2), .val (.int p3), .val (.int p4), .val (.int z5), .val (.int (3 : Int32)), .val (.int c0), .val (.int c1), .val (.int c2), .val (.ref b512), .unset, .val (.ref b505)] [(.int c0)])) rfl (by rw [hml]; rfl) (lenOf own_pd__28C_29Z rfl) rfl (W := 0) (by show 2 * 0 + _ ≤ _; exact Nat.le_of_eq rfl) (hb hby at_240) (by decide) (by decide) (by decide) (by decide)
              obtain ⟨rfl, Nq518, eq518⟩ := hQ518
              have N518 := Fr.app N513 Nq518
              refine oT st518 ?_
              show own_goW _ _ _ _ _ _ _ _ _ _ (T518.setTop (mkF m 243 #[.val (.int p0), .val (.int p1), .val (.int p2), .val (.int p3), .val (.int p4), .val (.int z5), .val (.int (3 : Int32)), .val (.int c0), .val (.int c1), .val (.int c2), .val (.ref b512), .unset, .val (.ref b505)] [(.int (1 : Int32))]))
              refine oT (fun _ k => XS.ifNo X518.here hx rfl (hb hby at_243) rfl (by decide) k) ?_
              refine oT (fun _ k => XS.iload X518.here hx rfl (hb hby at_246) rfl k) ?_
              show own_goW _ _ _ _ _ _ _ _ _ _ (T518.setTop (mkF m 248 #[.val (.int p0), .val (.int p1), .val (.int p2), .val (.int p3), .val (.int p4), .val (.int z5), .val (.int (3 : Int32)), .val (.int c0), .val (.int c1), .val (.int c2), .val (.ref b512), .unset, .val (.ref b505)] [(.int c1)]))
              obtain ⟨v519, T519, L519, X519, hQ519, st519⟩ := own_callS X518 hx hZ (argsL := [(.int c1)]) (rest := []) (rm_pr1 l Z a0 hw c1 T513.heap n0 O513 hc516) hown (ow hw 46 rfl) (ow hw 47 rfl) (ow hw 2 rfl) (ow hw 48 rfl) (by decide) eq518 (g := (mkF m 248 #[.val (.int p0), .val (.int p1), .val (.int p2), .val (.int p3), .val (.int p4), .val (.int z5), .val (.int (3 : Int32)), .val (.int c0), .val (.int c1), .val (.int c2), .val (.ref b512), .unset, .val (.ref b505)] [(.int c1)])) rfl (by rw [hml]; rfl) (lenOf own_pd__28C_29Z rfl) rfl (W := 0) (by show 2 * 0 + _ ≤ _; exact Nat.le_of_eq rfl) (hb hby at_248) (by decide) (by decide) (by decide) (by decide)
              obtain ⟨rfl, Nq519, eq519⟩ := hQ519
              have N519 := Fr.app N518 Nq519
              refine oT st519 ?_
              show own_goW _ _ _ _ _ _ _ _ _ _ (T519.setTop (mkF m 251 #[.val (.int p0), .val (.int p1), .val (.int p2), .val (.int p3), .val (.int p4), .val (.int z5), .val (.int (3 : Int32)), .val (.int c0), .val (.int c1), .val (.int c2), .val (.ref b512), .unset, .val (.ref b505)] [(.int (1 : Int32))]))
              refine oT (fun _ k => XS.ifNo X519.here hx rfl (hb hby at_251) rfl (by decide) k) ?_
              refine oT (fun _ k => XS.iload X519.here hx rfl (hb hby at_254) rfl k) ?_
              show own_goW _ _ _ _ _ _ _ _ _ _ (T519.setTop (mkF m 256 #[.val (.int p0), .val (.int p1), .val (.int p2), .val (.int p3), .val (.int p4), .val (.int z5), .val (.int (3 : Int32)), .val (.int c0), .val (.int c1), .val (.int c2), .val (.ref b512), .unset, .val (.ref b505)] [(.int c2)]))
              obtain ⟨v520, T520, L520, X520, hQ520, st520⟩ := own_callS X519 hx hZ (argsL := [(.int c2)]) (rest := []) (rm_pr1 l Z a0 hw c2 T513.heap n0 O513 hc517) hown (ow hw 46 rfl) (ow hw 47 rfl) (ow hw 2 rfl) (ow hw 48 rfl) (by decide) eq519 (g := (mkF m 256 #[.val (.int p0), .val (.int p1), .val (.int p2), .val (.int p3), .val (.int p4), .val (.int z5), .val (.int (3 : Int32)), .val (.int c0), .val (.int c1), .val (.int c2), .val (.ref b512), .unset, .val (.ref b505)] [(.int c2)])) rfl (by rw [hml]; rfl) (lenOf own_pd__28C_29Z rfl) rfl (W := 0) (by show 2 * 0 + _ ≤ _; exact Nat.le_of_eq rfl) (hb hby at_256) (by decide) (by decide) (by decide) (by decide)
              obtain ⟨rfl, Nq520, eq520⟩ := hQ520
              have N520 := Fr.app N519 Nq520
              refine oT st520 ?_
              show own_goW _ _ _ _ _ _ _ _ _ _ (T520.setTop (mkF m 259 #[.val (.int p0), .val (.int p1), .val (.int p2), .val (.int p3), .val (.int p4), .val (.int z5), .val (.int (3 : Int32)), .val (.int c0), .val (.int c1), .val (.int c2), .val (.ref b512), .unset, .val (.ref b505)] [(.int (1 : Int32))]))
              refine oT (fun _ k => XS.ifNo X520.here hx rfl (hb hby at_259) rfl (by decide) k) ?_
              refine oT (fun _ k => XS.iconst X520.here hx rfl (hb hby at_262) k) ?_
              refine oT (fun _ k => XS.goto X520.here hx rfl (pc0 := 263) (pc' := 267) rfl (hb hby at_263) (by decide) (by decide) k) ?_
              refine oT (fun _ k => XS.istore X520.here hx rfl (hb hby at_267) rfl (l' := #[.val (.int p0), .val (.int p1), .val (.int p2), .val (.int p3), .val (.int p4), .val (.int z5), .val (.int (3 : Int32)), .val (.int c0), .val (.int c1), .val (.int c2), .val (.ref b512), .val (.int (1 : Int32)), .val (.ref b505)]) rfl k) ?_
              refine oT (fun _ k => XS.aload X520.here hx rfl (hb hby at_269) rfl rfl k) ?_
              show own_goW _ _ _ _ _ _ _ _ _ _ (T520.setTop (mkF m 271 #[.val (.int p0), .val (.int p1), .val (.int p2), .val (.int p3), .val (.int p4), .val (.int z5), .val (.int (3 : Int32)), .val (.int c0), .val (.int c1), .val (.int c2), .val (.ref b512), .val (.int (1 : Int32)), .val (.ref b505)] [(.ref b512)]))
              have f522 := (A512.keep Kq513)
              obtain ⟨v521, T521, L521, X521, hQ521, st521⟩ := own_callS X520 hx hZ (argsL := [(.ref b512)]) (rest := []) (rm_kp_3 l Z a0 hw b512 t513 kt513 c0 c1 c2 zC vS T513.heap n0 O513 hS f522 U513 hc0 hc1 hc2 D513) hown (ow hw 26 rfl) (ow hw 27 rfl) (ow hw 28 rfl) (ow hw 29 rfl) (by decide) eq520 (g := (mkF m 271 #[.val (.int p0), .val (.int p1), .val (.int p2), .val (.int p3), .val (.int p4), .val (.int z5), .val (.int (3 : Int32)), .val (.int c0), .val (.int c1), .val (.int c2), .val (.ref b512), .val (.int (1 : Int32)), .val (.ref b505)] [(.ref b512)])) rfl (by rw [hml]; rfl) (lenOf own_pd__28Ljava_2flang_2fString_3b_29Ljava_2flang_2fString_3b rfl) rfl (W := 0) (by show 2 * 0 + _ ≤ _; exact Nat.le_of_eq rfl) (hb hby at_271) (by decide) (by decide) (by decide) (by decide)
              obtain ⟨w521, rfl, Nq521, eq521, iA521, iB521⟩ := hQ521
              have N521 := Fr.app N520 Nq521
              obtain rfl := iA521 ⟨hc515, hc516, hc517⟩
              refine oT st521 ?_
              show own_goW _ _ _ _ _ _ _ _ _ _ (T521.setTop (mkF m 274 #[.val (.int p0), .val (.int p1), .val (.int p2), .val (.int p3), .val (.int p4), .val (.int z5), .val (.int (3 : Int32)), .val (.int c0), .val (.int c1), .val (.int c2), .val (.ref b512), .val (.int (1 : Int32)), .val (.ref b505)] [(.ref b512)]))
              refine oT (fun _ k => XS.astore X521.here hx rfl (hb hby at_274) rfl rfl (l' := #[.val (.int p0), .val (.int p1), .val (.int p2), .val (.int p3), .val (.int p4), .val (.int z5), .val (.int (3 : Int32)), .val (.int c0), .val (.int c1), .val (.int c2), .val (.ref b512), .val (.int (1 : Int32)), .val (.ref b512)]) rfl k) ?_
              refine oT (fun _ k => XS.iload X521.here hx rfl (hb hby at_276) rfl k) ?_
              show own_goW _ _ _ _ _ _ _ _ _ _ (T521.setTop (mkF m 278 #[.val (.int p0), .val (.int p1), .val (.int p2), .val (.int p3), .val (.int p4), .val (.int z5), .val (.int (3 : Int32)), .val (.int c0), .val (.int c1), .val (.int c2), .val (.ref b512), .val (.int (1 : Int32)), .val (.ref b512)] [(.int (1 : Int32))]))
              refine oT (fun _ k => XS.ifYes X521.here hx rfl (pc0 := 278) (pc' := 292) rfl (hb hby at_278) rfl (by decide) (by decide) (by decide) k) ?_
              refine oT (fun _ k => XS.aload X521.here hx rfl (hb hby at_292) rfl rfl k) ?_
              show own_goW _ _ _ _ _ _ _ _ _ _ (T521.setTop (mkF m 294 #[.val (.int p0), .val (.int p1), .val (.int p2), .val (.int p3), .val (.int p4), .val (.int z5), .val (.int (3 : Int32)), .val (.int c0), .val (.int c1), .val (.int c2), .val (.ref b512), .val (.int (1 : Int32)), .val (.ref b512)] [(.ref b512)]))
              refine oT (fun _ k => XS.ifnullNo X521.here hx rfl (hb hby at_294) rfl k) ?_
              refine oT (fun _ k => XS.aload X521.here hx rfl (hb hby at_297) rfl rfl k) ?_
              refine oT (fun _ k => XS.aload X521.here hx rfl (hb hby at_299) rfl rfl k) ?_
              show own_goW _ _ _ _ _ _ _ _ _ _ (T521.setTop (mkF m 301 #[.val (.int p0), .val (.int p1), .val (.int p2), .val (.int p3), .val (.int p4), .val (.int z5), .val (.int (3 : Int32)), .val (.int c0), .val (.int c1), .val (.int c2), .val (.ref b512), .val (.int (1 : Int32)), .val (.ref b512)] [(.ref b512), (.ref b512)]))
              obtain ⟨v523, T523, L523, X523, hQ523, st523⟩ := own_callV X521 hx hZ (argsL := [(.ref b512)]) (rest := []) (rm_eq l Z a0 hw b512 T513.heap n0 O513) hown (ow hw 110 rfl) (ow hw 111 rfl) (notFace_of_selects (args := #[]) (mvT hZ (ow hw 113 rfl))) (ow hw 113 rfl) (ow hw 112 rfl) (ow hw 6 rfl) (ow hw 114 rfl) (by decide) eq521 f522 (g := (mkF m 301 #[.val (.int p0), .val (.int p1), .val (.int p2), .val (.int p3), .val (.int p4), .val (.int z5), .val (.int (3 : Int32)), .val (.int c0), .val (.int c1), .val (.int c2), .val (.ref b512), .val (.int (1 : Int32)), .val (.ref b512)] [(.ref b512), (.ref b512)])) rfl (by rw [hml]; rfl) (lenOf own_pd__28Ljava_2flang_2fObject_3b_29Z rfl) rfl (W := 0) (by show 2 * 0 + _ ≤ _; exact Nat.le_of_eq rfl) (hb hby at_301) (by decide) (by decide) (by decide) (by decide)
              obtain ⟨rfl, Nq523, eq523⟩ := hQ523
              have N523 := Fr.app N521 Nq523
              refine oT st523 ?_
              show own_goW _ _ _ _ _ _ _ _ _ _ (T523.setTop (mkF m 304 #[.val (.int p0), .val (.int p1), .val (.int p2), .val (.int p3), .val (.int p4), .val (.int z5), .val (.int (3 : Int32)), .val (.int c0), .val (.int c1), .val (.int c2), .val (.ref b512), .val (.int (1 : Int32)), .val (.ref b512)] [(.int (1 : Int32))]))
              refine oT (fun _ k => XS.ifNo X523.here hx rfl (hb hby at_304) rfl (by decide) k) ?_
              refine oT (fun _ k => XS.iconst X523.here hx rfl (hb hby at_307) k) ?_
              refine oT (fun _ k => XS.goto X523.here hx rfl (pc0 := 308) (pc' := 312) rfl (hb hby at_308) (by decide) (by decide) k) ?_
              show own_goW _ _ _ _ _ _ _ _ _ _ (T523.setTop (mkF m 312 #[.val (.int p0), .val (.int p1), .val (.int p2), .val (.int p3), .val (.int p4), .val (.int z5), .val (.int (3 : Int32)), .val (.int c0), .val (.int c1), .val (.int c2), .val (.ref b512), .val (.int (1 : Int32)), .val (.ref b512)] [(.int (1 : Int32))]))
              exact own_retNW X523 hx hlk hS0 hkk513 hZ hEL Ck513 eq523 (t := .boolean) hret (by simp) rfl (hb hby at_312) (by decide) (by decide) (⟨rfl, N523⟩)
            · skip
              refine oT (fun _ k => XS.iload X513.here hx rfl (hb hby at_238) rfl k) ?_
              show own_goW _ _ _ _ _ _ _ _ _ _ (T513.setTop (mkF m 240 #[.val (.int p0), .val (.int p1), .val (.int p2), .val (.int p3), .val (.int p4), .val (.int z5), .val (.int (3 : Int32)), .val (.int c0), .val (.int c1), .val (.int c2), .val (.ref b512), .unset, .val (.ref b505)] [(.int c0)]))
              obtain ⟨v524, T524, L524, X524, hQ524, st524⟩ := own_callS X513 hx hZ (argsL := [(.int c0)]) (rest := []) (rm_pr1 l Z a0 hw c0 T513.heap n0 O513 hc515) hown (ow hw 46 rfl) (ow hw 47 rfl) (ow hw 2 rfl) (ow hw 48 rfl) (by decide) rfl (g := (mkF m 240 #[.val (.int p0), .val (.int p1), .val (.int p2), .val (.int p3), .val (.int p4), .val (.int z5), .val (.int (3 : Int32)), .val (.int c0), .val (.int c1), .val (.int c2), .val (.ref b512), .unset, .val (.ref b505)] [(.int c0)])) rfl (by rw [hml]; rfl) (lenOf own_pd__28C_29Z rfl) rfl (W := 0) (by show 2 * 0 + _ ≤ _; exact Nat.le_of_eq rfl) (hb hby at_240) (by decide) (by decide) (by decide) (by decide)
              obtain ⟨rfl, Nq524, eq524⟩ := hQ524
              have N524 := Fr.app N513 Nq524
              refine oT st524 ?_
              show own_goW _ _ _ _ _ _ _ _ _ _ (T524.setTop (mkF m 243 #[.val (.int p0), .val (.int p1), .val (.int p2), .val (.int p3), .val (.int p4), .val (.int z5), .val (.int (3 : Int32)), .val (.int c0), .val (.int c1), .val (.int c2), .val (.ref b512), .unset, .val (.ref b505)] [(.int (1 : Int32))]))
              refine oT (fun _ k => XS.ifNo X524.here hx rfl (hb hby at_243) rfl (by decide) k) ?_
              refine oT (fun _ k => XS.iload X524.here hx rfl (hb hby at_246) rfl k) ?_
              show own_goW _ _ _ _ _ _ _ _ _ _ (T524.setTop (mkF m 248 #[.val (.int p0), .val (.int p1), .val (.int p2), .val (.int p3), .val (.int p4), .val (.int z5), .val (.int (3 : Int32)), .val (.int c0), .val (.int c1), .val (.int c2), .val (.ref b512), .unset, .val (.ref b505)] [(.int c1)]))
              obtain ⟨v525, T525, L525, X525, hQ525, st525⟩ := own_callS X524 hx hZ (argsL := [(.int c1)]) (rest := []) (rm_pr1 l Z a0 hw c1 T513.heap n0 O513 hc516) hown (ow hw 46 rfl) (ow hw 47 rfl) (ow hw 2 rfl) (ow hw 48 rfl) (by decide) eq524 (g := (mkF m 248 #[.val (.int p0), .val (.int p1), .val (.int p2), .val (.int p3), .val (.int p4), .val (.int z5), .val (.int (3 : Int32)), .val (.int c0), .val (.int c1), .val (.int c2), .val (.ref b512), .unset, .val (.ref b505)] [(.int c1)])) rfl (by rw [hml]; rfl) (lenOf own_pd__28C_29Z rfl) rfl (W := 0) (by show 2 * 0 + _ ≤ _; exact Nat.le_of_eq rfl) (hb hby at_248) (by decide) (by decide) (by decide) (by decide)
              obtain ⟨rfl, Nq525, eq525⟩ := hQ525
              have N525 := Fr.app N524 Nq525
              refine oT st525 ?_
              show own_goW _ _ _ _ _ _ _ _ _ _ (T525.setTop (mkF m 251 #[.val (.int p0), .val (.int p1), .val (.int p2), .val (.int p3), .val (.int p4), .val (.int z5), .val (.int (3 : Int32)), .val (.int c0), .val (.int c1), .val (.int c2), .val (.ref b512), .unset, .val (.ref b505)] [(.int (1 : Int32))]))
              refine oT (fun _ k => XS.ifNo X525.here hx rfl (hb hby at_251) rfl (by decide) k) ?_
              refine oT (fun _ k => XS.iload X525.here hx rfl (hb hby at_254) rfl k) ?_
              show own_goW _ _ _ _ _ _ _ _ _ _ (T525.setTop (mkF m 256 #[.val (.int p0), .val (.int p1), .val (.int p2), .val (.int p3), .val (.int p4), .val (.int z5), .val (.int (3 : Int32)), .val (.int c0), .val (.int c1), .val (.int c2), .val (.ref b512), .unset, .val (.ref b505)] [(.int c2)]))
              obtain ⟨v526, T526, L526, X526, hQ526, st526⟩ := own_callS X525 hx hZ (argsL := [(.int c2)]) (rest := []) (rm_pr0 l Z a0 hw c2 T513.heap n0 O513 hc517) hown (ow hw 46 rfl) (ow hw 47 rfl) (ow hw 2 rfl) (ow hw 48 rfl) (by decide) eq525 (g := (mkF m 256 #[.val (.int p0), .val (.int p1), .val (.int p2), .val (.int p3), .val (.int p4), .val (.int z5), .val (.int (3 : Int32)), .val (.int c0), .val (.int c1), .val (.int c2), .val (.ref b512), .unset, .val (.ref b505)] [(.int c2)])) rfl (by rw [hml]; rfl) (lenOf own_pd__28C_29Z rfl) rfl (W := 0) (by show 2 * 0 + _ ≤ _; exact Nat.le_of_eq rfl) (hb hby at_256) (by decide) (by decide) (by decide) (by decide)
              obtain ⟨rfl, Nq526, eq526⟩ := hQ526
              have N526 := Fr.app N525 Nq526
              refine oT st526 ?_
              show own_goW _ _ _ _ _ _ _ _ _ _ (T526.setTop (mkF m 259 #[.val (.int p0), .val (.int p1), .val (.int p2), .val (.int p3), .val (.int p4), .val (.int z5), .val (.int (3 : Int32)), .val (.int c0), .val (.int c1), .val (.int c2), .val (.ref b512), .unset, .val (.ref b505)] [(.int (0 : Int32))]))
              refine oT (fun _ k => XS.ifYes X526.here hx rfl (pc0 := 259) (pc' := 266) rfl (hb hby at_259) rfl (by decide) (by decide) (by decide) k) ?_
              refine oT (fun _ k => XS.iconst X526.here hx rfl (hb hby at_266) k) ?_
              refine oT (fun _ k => XS.istore X526.here hx rfl (hb hby at_267) rfl (l' := #[.val (.int p0), .val (.int p1), .val (.int p2), .val (.int p3), .val (.int p4), .val (.int z5), .val (.int (3 : Int32)), .val (.int c0), .val (.int c1), .val (.int c2), .val (.ref b512), .val (.int (0 : Int32)), .val (.ref b505)]) rfl k) ?_
              refine oT (fun _ k => XS.aload X526.here hx rfl (hb hby at_269) rfl rfl k) ?_
              show own_goW _ _ _ _ _ _ _ _ _ _ (T526.setTop (mkF m 271 #[.val (.int p0), .val (.int p1), .val (.int p2), .val (.int p3), .val (.int p4), .val (.int z5), .val (.int (3 : Int32)), .val (.int c0), .val (.int c1), .val (.int c2), .val (.ref b512), .val (.int (0 : Int32)), .val (.ref b505)] [(.ref b512)]))
              have f528 := (A512.keep Kq513)
              obtain ⟨v527, T527, L527, X527, hQ527, st527⟩ := own_callS X526 hx hZ (argsL := [(.ref b512)]) (rest := []) (rm_kp_3 l Z a0 hw b512 t513 kt513 c0 c1 c2 zC vS T513.heap n0 O513 hS f528 U513 hc0 hc1 hc2 D513) hown (ow hw 26 rfl) (ow hw 27 rfl) (ow hw 28 rfl) (ow hw 29 rfl) (by decide) eq526 (g := (mkF m 271 #[.val (.int p0), .val (.int p1), .val (.int p2), .val (.int p3), .val (.int p4), .val (.int z5), .val (.int (3 : Int32)), .val (.int c0), .val (.int c1), .val (.int c2), .val (.ref b512), .val (.int (0 : Int32)), .val (.ref b505)] [(.ref b512)])) rfl (by rw [hml]; rfl) (lenOf own_pd__28Ljava_2flang_2fString_3b_29Ljava_2flang_2fString_3b rfl) rfl (W := 0) (by show 2 * 0 + _ ≤ _; exact Nat.le_of_eq rfl) (hb hby at_271) (by decide) (by decide) (by decide) (by decide)
              obtain ⟨w527, rfl, Nq527, eq527, iA527, iB527⟩ := hQ527
              have N527 := Fr.app N526 Nq527
              obtain rfl := iB527 (fun q => absurd q.2.2 hc517)
              refine oT st527 ?_
              show own_goW _ _ _ _ _ _ _ _ _ _ (T527.setTop (mkF m 274 #[.val (.int p0), .val (.int p1), .val (.int p2), .val (.int p3), .val (.int p4), .val (.int z5), .val (.int (3 : Int32)), .val (.int c0), .val (.int c1), .val (.int c2), .val (.ref b512), .val (.int (0 : Int32)), .val (.ref b505)] [.null]))
              refine oT (fun _ k => XS.astore X527.here hx rfl (hb hby at_274) rfl rfl (l' := #[.val (.int p0), .val (.int p1), .val (.int p2), .val (.int p3), .val (.int p4), .val (.int z5), .val (.int (3 : Int32)), .val (.int c0), .val (.int c1), .val (.int c2), .val (.ref b512), .val (.int (0 : Int32)), .val .null]) rfl k) ?_
              refine oT (fun _ k => XS.iload X527.here hx rfl (hb hby at_276) rfl k) ?_
              show own_goW _ _ _ _ _ _ _ _ _ _ (T527.setTop (mkF m 278 #[.val (.int p0), .val (.int p1), .val (.int p2), .val (.int p3), .val (.int p4), .val (.int z5), .val (.int (3 : Int32)), .val (.int c0), .val (.int c1), .val (.int c2), .val (.ref b512), .val (.int (0 : Int32)), .val .null] [(.int (0 : Int32))]))
              refine oT (fun _ k => XS.ifNo X527.here hx rfl (hb hby at_278) rfl (by decide) k) ?_
              refine oT (fun _ k => XS.aload X527.here hx rfl (hb hby at_281) rfl rfl k) ?_
              show own_goW _ _ _ _ _ _ _ _ _ _ (T527.setTop (mkF m 283 #[.val (.int p0), .val (.int p1), .val (.int p2), .val (.int p3), .val (.int p4), .val (.int z5), .val (.int (3 : Int32)), .val (.int c0), .val (.int c1), .val (.int c2), .val (.ref b512), .val (.int (0 : Int32)), .val .null] [.null]))
              refine oT (fun _ k => XS.ifnonnullNo X527.here hx rfl (hb hby at_283) rfl k) ?_
              refine oT (fun _ k => XS.iconst X527.here hx rfl (hb hby at_286) k) ?_
              refine oT (fun _ k => XS.goto X527.here hx rfl (pc0 := 287) (pc' := 291) rfl (hb hby at_287) (by decide) (by decide) k) ?_
              show own_goW _ _ _ _ _ _ _ _ _ _ (T527.setTop (mkF m 291 #[.val (.int p0), .val (.int p1), .val (.int p2), .val (.int p3), .val (.int p4), .val (.int z5), .val (.int (3 : Int32)), .val (.int c0), .val (.int c1), .val (.int c2), .val (.ref b512), .val (.int (0 : Int32)), .val .null] [(.int (1 : Int32))]))
              exact own_retNW X527 hx hlk hS0 hkk513 hZ hEL Ck513 eq527 (t := .boolean) hret (by simp) rfl (hb hby at_291) (by decide) (by decide) (⟨rfl, N527⟩)
          · skip
            refine oT (fun _ k => XS.iload X513.here hx rfl (hb hby at_238) rfl k) ?_
            show own_goW _ _ _ _ _ _ _ _ _ _ (T513.setTop (mkF m 240 #[.val (.int p0), .val (.int p1), .val (.int p2), .val (.int p3), .val (.int p4), .val (.int z5), .val (.int (3 : Int32)), .val (.int c0), .val (.int c1), .val (.int c2), .val (.ref b512), .unset, .val (.ref b505)] [(.int c0)]))
            obtain ⟨v529, T529, L529, X529, hQ529, st529⟩ := own_callS X513 hx hZ (argsL := [(.int c0)]) (rest := []) (rm_pr1 l Z a0 hw c0 T513.heap n0 O513 hc515) hown (ow hw 46 rfl) (ow hw 47 rfl) (ow hw 2 rfl) (ow hw 48 rfl) (by decide) rfl (g := (mkF m 240 #[.val (.int p0), .val (.int p1), .val (.int p2), .val (.int p3), .val (.int p4), .val (.int z5), .val (.int (3 : Int32)), .val (.int c0), .val (.int c1), .val (.int c2), .val (.ref b512), .unset, .val (.ref b505)] [(.int c0)])) rfl (by rw [hml]; rfl) (lenOf own_pd__28C_29Z rfl) rfl (W := 0) (by show 2 * 0 + _ ≤ _; exact Nat.le_of_eq rfl) (hb hby at_240) (by decide) (by decide) (by decide) (by decide)
            obtain ⟨rfl, Nq529, eq529⟩ := hQ529
            have N529 := Fr.app N513 Nq529
            refine oT st529 ?_
            show own_goW _ _ _ _ _ _ _ _ _ _ (T529.setTop (mkF m 243 #[.val (.int p0), .val (.int p1), .val (.int p2), .val (.int p3), .val (.int p4), .val (.int z5), .val (.int (3 : Int32)), .val (.int c0), .val (.int c1), .val (.int c2), .val (.ref b512), .unset, .val (.ref b505)] [(.int (1 : Int32))]))
            refine oT (fun _ k => XS.ifNo X529.here hx rfl (hb hby at_243) rfl (by decide) k) ?_
            refine oT (fun _ k => XS.iload X529.here hx rfl (hb hby at_246) rfl k) ?_
            show own_goW _ _ _ _ _ _ _ _ _ _ (T529.setTop (mkF m 248 #[.val (.int p0), .val (.int p1), .val (.int p2), .val (.int p3), .val (.int p4), .val (.int z5), .val (.int (3 : Int32)), .val (.int c0), .val (.int c1), .val (.int c2), .val (.ref b512), .unset, .val (.ref b505)] [(.int c1)]))
            obtain ⟨v530, T530, L530, X530, hQ530, st530⟩ := own_callS X529 hx hZ (argsL := [(.int c1)]) (rest := []) (rm_pr0 l Z a0 hw c1 T513.heap n0 O513 hc516) hown (ow hw 46 rfl) (ow hw 47 rfl) (ow hw 2 rfl) (ow hw 48 rfl) (by decide) eq529 (g := (mkF m 248 #[.val (.int p0), .val (.int p1), .val (.int p2), .val (.int p3), .val (.int p4), .val (.int z5), .val (.int (3 : Int32)), .val (.int c0), .val (.int c1), .val (.int c2), .val (.ref b512), .unset, .val (.ref b505)] [(.int c1)])) rfl (by rw [hml]; rfl) (lenOf own_pd__28C_29Z rfl) rfl (W := 0) (by show 2 * 0 + _ ≤ _; exact Nat.le_of_eq rfl) (hb hby at_248) (by decide) (by decide) (by decide) (by decide)
            obtain ⟨rfl, Nq530, eq530⟩ := hQ530
            have N530 := Fr.app N529 Nq530
            refine oT st530 ?_
            show own_goW _ _ _ _ _ _ _ _ _ _ (T530.setTop (mkF m 251 #[.val (.int p0), .val (.int p1), .val (.int p2), .val (.int p3), .val (.int p4), .val (.int z5), .val (.int (3 : Int32)), .val (.int c0), .val (.int c1), .val (.int c2), .val (.ref b512), .unset, .val (.ref b505)] [(.int (0 : Int32))]))
            refine oT (fun _ k => XS.ifYes X530.here hx rfl (pc0 := 251) (pc' := 266) rfl (hb hby at_251) rfl (by decide) (by decide) (by decide) k) ?_
            refine oT (fun _ k => XS.iconst X530.here hx rfl (hb hby at_266) k) ?_
            refine oT (fun _ k => XS.istore X530.here hx rfl (hb hby at_267) rfl (l' := #[.val (.int p0), .val (.int p1), .val (.int p2), .val (.int p3), .val (.int p4), .val (.int z5), .val (.int (3 : Int32)), .val (.int c0), .val (.int c1), .val (.int c2), .val (.ref b512), .val (.int (0 : Int32)), .val (.ref b505)]) rfl k) ?_
            refine oT (fun _ k => XS.aload X530.here hx rfl (hb hby at_269) rfl rfl k) ?_
            show own_goW _ _ _ _ _ _ _ _ _ _ (T530.setTop (mkF m 271 #[.val (.int p0), .val (.int p1), .val (.int p2), .val (.int p3), .val (.int p4), .val (.int z5), .val (.int (3 : Int32)), .val (.int c0), .val (.int c1), .val (.int c2), .val (.ref b512), .val (.int (0 : Int32)), .val (.ref b505)] [(.ref b512)]))
            have f532 := (A512.keep Kq513)
            obtain ⟨v531, T531, L531, X531, hQ531, st531⟩ := own_callS X530 hx hZ (argsL := [(.ref b512)]) (rest := []) (rm_kp_3 l Z a0 hw b512 t513 kt513 c0 c1 c2 zC vS T513.heap n0 O513 hS f532 U513 hc0 hc1 hc2 D513) hown (ow hw 26 rfl) (ow hw 27 rfl) (ow hw 28 rfl) (ow hw 29 rfl) (by decide) eq530 (g := (mkF m 271 #[.val (.int p0), .val (.int p1), .val (.int p2), .val (.int p3), .val (.int p4), .val (.int z5), .val (.int (3 : Int32)), .val (.int c0), .val (.int c1), .val (.int c2), .val (.ref b512), .val (.int (0 : Int32)), .val (.ref b505)] [(.ref b512)])) rfl (by rw [hml]; rfl) (lenOf own_pd__28Ljava_2flang_2fString_3b_29Ljava_2flang_2fString_3b rfl) rfl (W := 0) (by show 2 * 0 + _ ≤ _; exact Nat.le_of_eq rfl) (hb hby at_271) (by decide) (by decide) (by decide) (by decide)
            obtain ⟨w531, rfl, Nq531, eq531, iA531, iB531⟩ := hQ531
            have N531 := Fr.app N530 Nq531
            obtain rfl := iB531 (fun q => absurd q.2.1 hc516)
            refine oT st531 ?_
            show own_goW _ _ _ _ _ _ _ _ _ _ (T531.setTop (mkF m 274 #[.val (.int p0), .val (.int p1), .val (.int p2), .val (.int p3), .val (.int p4), .val (.int z5), .val (.int (3 : Int32)), .val (.int c0), .val (.int c1), .val (.int c2), .val (.ref b512), .val (.int (0 : Int32)), .val (.ref b505)] [.null]))
            refine oT (fun _ k => XS.astore X531.here hx rfl (hb hby at_274) rfl rfl (l' := #[.val (.int p0), .val (.int p1), .val (.int p2), .val (.int p3), .val (.int p4), .val (.int z5), .val (.int (3 : Int32)), .val (.int c0), .val (.int c1), .val (.int c2), .val (.ref b512), .val (.int (0 : Int32)), .val .null]) rfl k) ?_
            refine oT (fun _ k => XS.iload X531.here hx rfl (hb hby at_276) rfl k) ?_
            show own_goW _ _ _ _ _ _ _ _ _ _ (T531.setTop (mkF m 278 #[.val (.int p0), .val (.int p1), .val (.int p2), .val (.int p3), .val (.int p4), .val (.int z5), .val (.int (3 : Int32)), .val (.int c0), .val (.int c1), .val (.int c2), .val (.ref b512), .val (.int (0 : Int32)), .val .null] [(.int (0 : Int32))]))
            refine oT (fun _ k => XS.ifNo X531.here hx rfl (hb hby at_278) rfl (by decide) k) ?_
            refine oT (fun _ k => XS.aload X531.here hx rfl (hb hby at_281) rfl rfl k) ?_
            show own_goW _ _ _ _ _ _ _ _ _ _ (T531.setTop (mkF m 283 #[.val (.int p0), .val (.int p1), .val (.int p2), .val (.int p3), .val (.int p4), .val (.int z5), .val (.int (3 : Int32)), .val (.int c0), .val (.int c1), .val (.int c2), .val (.ref b512), .val (.int (0 : Int32)), .val .null] [.null]))
            refine oT (fun _ k => XS.ifnonnullNo X531.here hx rfl (hb hby at_283) rfl k) ?_
            refine oT (fun _ k => XS.iconst X531.here hx rfl (hb hby at_286) k) ?_
            refine oT (fun _ k => XS.goto X531.here hx rfl (pc0 := 287) (pc' := 291) rfl (hb hby at_287) (by decide) (by decide) k) ?_
            show own_goW _ _ _ _ _ _ _ _ _ _ (T531.setTop (mkF m 291 #[.val (.int p0), .val (.int p1), .val (.int p2), .val (.int p3), .val (.int p4), .val (.int z5), .val (.int (3 : Int32)), .val (.int c0), .val (.int c1), .val (.int c2), .val (.ref b512), .val (.int (0 : Int32)), .val .null] [(.int (1 : Int32))]))
            exact own_retNW X531 hx hlk hS0 hkk513 hZ hEL Ck513 eq531 (t := .boolean) hret (by simp) rfl (hb hby at_291) (by decide) (by decide) (⟨rfl, N531⟩)
        · skip
          refine oT (fun _ k => XS.iload X513.here hx rfl (hb hby at_238) rfl k) ?_
          show own_goW _ _ _ _ _ _ _ _ _ _ (T513.setTop (mkF m 240 #[.val (.int p0), .val (.int p1), .val (.int p2), .val (.int p3), .val (.int p4), .val (.int z5), .val (.int (3 : Int32)), .val (.int c0), .val (.int c1), .val (.int c2), .val (.ref b512), .unset, .val (.ref b505)] [(.int c0)]))
          obtain ⟨v533, T533, L533, X533, hQ533, st533⟩ := own_callS X513 hx hZ (argsL := [(.int c0)]) (rest := []) (rm_pr0 l Z a0 hw c0 T513.heap n0 O513 hc515) hown (ow hw 46 rfl) (ow hw 47 rfl) (ow hw 2 rfl) (ow hw 48 rfl) (by decide) rfl (g := (mkF m 240 #[.val (.int p0), .val (.int p1), .val (.int p2), .val (.int p3), .val (.int p4), .val (.int z5), .val (.int (3 : Int32)), .val (.int c0), .val (.int c1), .val (.int c2), .val (.ref b512), .unset, .val (.ref b505)] [(.int c0)])) rfl (by rw [hml]; rfl) (lenOf own_pd__28C_29Z rfl) rfl (W := 0) (by show 2 * 0 + _ ≤ _; exact Nat.le_of_eq rfl) (hb hby at_240) (by decide) (by decide) (by decide) (by decide)
          obtain ⟨rfl, Nq533, eq533⟩ := hQ533
          have N533 := Fr.app N513 Nq533
          refine oT st533 ?_
          show own_goW _ _ _ _ _ _ _ _ _ _ (T533.setTop (mkF m 243 #[.val (.int p0), .val (.int p1), .val (.int p2), .val (.int p3), .val (.int p4), .val (.int z5), .val (.int (3 : Int32)), .val (.int c0), .val (.int c1), .val (.int c2), .val (.ref b512), .unset, .val (.ref b505)] [(.int (0 : Int32))]))
          refine oT (fun _ k => XS.ifYes X533.here hx rfl (pc0 := 243) (pc' := 266) rfl (hb hby at_243) rfl (by decide) (by decide) (by decide) k) ?_
          refine oT (fun _ k => XS.iconst X533.here hx rfl (hb hby at_266) k) ?_
          refine oT (fun _ k => XS.istore X533.here hx rfl (hb hby at_267) rfl (l' := #[.val (.int p0), .val (.int p1), .val (.int p2), .val (.int p3), .val (.int p4), .val (.int z5), .val (.int (3 : Int32)), .val (.int c0), .val (.int c1), .val (.int c2), .val (.ref b512), .val (.int (0 : Int32)), .val (.ref b505)]) rfl k) ?_
          refine oT (fun _ k => XS.aload X533.here hx rfl (hb hby at_269) rfl rfl k) ?_
          show own_goW _ _ _ _ _ _ _ _ _ _ (T533.setTop (mkF m 271 #[.val (.int p0), .val (.int p1), .val (.int p2), .val (.int p3), .val (.int p4), .val (.int z5), .val (.int (3 : Int32)), .val (.int c0), .val (.int c1), .val (.int c2), .val (.ref b512), .val (.int (0 : Int32)), .val (.ref b505)] [(.ref b512)]))
          have f535 := (A512.keep Kq513)
          obtain ⟨v534, T534, L534, X534, hQ534, st534⟩ := own_callS X533 hx hZ (argsL := [(.ref b512)]) (rest := []) (rm_kp_3 l Z a0 hw b512 t513 kt513 c0 c1 c2 zC vS T513.heap n0 O513 hS f535 U513 hc0 hc1 hc2 D513) hown (ow hw 26 rfl) (ow hw 27 rfl) (ow hw 28 rfl) (ow hw 29 rfl) (by decide) eq533 (g := (mkF m 271 #[.val (.int p0), .val (.int p1), .val (.int p2), .val (.int p3), .val (.int p4), .val (.int z5), .val (.int (3 : Int32)), .val (.int c0), .val (.int c1), .val (.int c2), .val (.ref b512), .val (.int (0 : Int32)), .val (.ref b505)] [(.ref b512)])) rfl (by rw [hml]; rfl) (lenOf own_pd__28Ljava_2flang_2fString_3b_29Ljava_2flang_2fString_3b rfl) rfl (W := 0) (by show 2 * 0 + _ ≤ _; exact Nat.le_of_eq rfl) (hb hby at_271) (by decide) (by decide) (by decide) (by decide)
          obtain ⟨w534, rfl, Nq534, eq534, iA534, iB534⟩ := hQ534
          have N534 := Fr.app N533 Nq534
          obtain rfl := iB534 (fun q => absurd q.1 hc515)
          refine oT st534 ?_
          show own_goW _ _ _ _ _ _ _ _ _ _ (T534.setTop (mkF m 274 #[.val (.int p0), .val (.int p1), .val (.int p2), .val (.int p3), .val (.int p4), .val (.int z5), .val (.int (3 : Int32)), .val (.int c0), .val (.int c1), .val (.int c2), .val (.ref b512), .val (.int (0 : Int32)), .val (.ref b505)] [.null]))
          refine oT (fun _ k => XS.astore X534.here hx rfl (hb hby at_274) rfl rfl (l' := #[.val (.int p0), .val (.int p1), .val (.int p2), .val (.int p3), .val (.int p4), .val (.int z5), .val (.int (3 : Int32)), .val (.int c0), .val (.int c1), .val (.int c2), .val (.ref b512), .val (.int (0 : Int32)), .val .null]) rfl k) ?_
          refine oT (fun _ k => XS.iload X534.here hx rfl (hb hby at_276) rfl k) ?_
          show own_goW _ _ _ _ _ _ _ _ _ _ (T534.setTop (mkF m 278 #[.val (.int p0), .val (.int p1), .val (.int p2), .val (.int p3), .val (.int p4), .val (.int z5), .val (.int (3 : Int32)), .val (.int c0), .val (.int c1), .val (.int c2), .val (.ref b512), .val (.int (0 : Int32)), .val .null] [(.int (0 : Int32))]))
          refine oT (fun _ k => XS.ifNo X534.here hx rfl (hb hby at_278) rfl (by decide) k) ?_
          refine oT (fun _ k => XS.aload X534.here hx rfl (hb hby at_281) rfl rfl k) ?_
          show own_goW _ _ _ _ _ _ _ _ _ _ (T534.setTop (mkF m 283 #[.val (.int p0), .val (.int p1), .val (.int p2), .val (.int p3), .val (.int p4), .val (.int z5), .val (.int (3 : Int32)), .val (.int c0), .val (.int c1), .val (.int c2), .val (.ref b512), .val (.int (0 : Int32)), .val .null] [.null]))
          refine oT (fun _ k => XS.ifnonnullNo X534.here hx rfl (hb hby at_283) rfl k) ?_
          refine oT (fun _ k => XS.iconst X534.here hx rfl (hb hby at_286) k) ?_
          refine oT (fun _ k => XS.goto X534.here hx rfl (pc0 := 287) (pc' := 291) rfl (hb hby at_287) (by decide) (by decide) k) ?_
          show own_goW _ _ _ _ _ _ _ _ _ _ (T534.setTop (mkF m 291 #[.val (.int p0), .val (.int p1), .val (.int p2), .val (.int p3), .val (.int p4), .val (.int z5), .val (.int (3 : Int32)), .val (.int c0), .val (.int c1), .val (.int c2), .val (.ref b512), .val (.int (0 : Int32)), .val .null] [(.int (1 : Int32))]))
          exact own_retNW X534 hx hlk hS0 hkk513 hZ hEL Ck513 eq534 (t := .boolean) hret (by simp) rfl (hb hby at_291) (by decide) (by decide) (⟨rfl, N534⟩)
    · skip
      refine oT (fun _ k => XS.ifNo Xt.here hx rfl (hb hby at_77) rfl (XT.i0_eq_f hc460) k) ?_
      refine oT (fun _ k => XS.aconstNull Xt.here hx rfl (hb hby at_80) k) ?_
      refine oT (fun _ k => XS.astore Xt.here hx rfl (hb hby at_81) rfl rfl (l' := #[.val (.int p0), .val (.int p1), .val (.int p2), .val (.int p3), .val (.int p4), .val (.int z5), .val (.int n6), .val (.int c0), .val (.int c1), .val (.int c2), .val .null, .unset, .unset]) rfl k) ?_
      refine oT (fun _ k => XS.iconst Xt.here hx rfl (hb hby at_83) k) ?_
      refine oT (fun _ k => XS.istore Xt.here hx rfl (hb hby at_84) rfl (l' := #[.val (.int p0), .val (.int p1), .val (.int p2), .val (.int p3), .val (.int p4), .val (.int z5), .val (.int n6), .val (.int c0), .val (.int c1), .val (.int c2), .val .null, .val (.int (0 : Int32)), .unset]) rfl k) ?_
      show own_goW _ _ _ _ _ _ _ _ _ _ (Tt.setTop (mkF m 86 #[.val (.int p0), .val (.int p1), .val (.int p2), .val (.int p3), .val (.int p4), .val (.int z5), .val (.int n6), .val (.int c0), .val (.int c1), .val (.int c2), .val .null, .val (.int (0 : Int32)), .unset] []))
      refine oT (fun _ k => XS.goto Xt.here hx rfl (pc0 := 86) (pc' := 269) rfl (hb hby at_86) (by decide) (by decide) k) ?_
      refine oT (fun _ k => XS.aload Xt.here hx rfl (hb hby at_269) rfl rfl k) ?_
      show own_goW _ _ _ _ _ _ _ _ _ _ (Tt.setTop (mkF m 271 #[.val (.int p0), .val (.int p1), .val (.int p2), .val (.int p3), .val (.int p4), .val (.int z5), .val (.int n6), .val (.int c0), .val (.int c1), .val (.int c2), .val .null, .val (.int (0 : Int32)), .unset] [.null]))
      obtain ⟨v536, T536, L536, X536, hQ536, st536⟩ := own_callS Xt hx hZ (argsL := [.null]) (rest := []) (rm_kpN l Z a0 hw h0 n0 O0) hown (ow hw 26 rfl) (ow hw 27 rfl) (ow hw 28 rfl) (ow hw 29 rfl) (by decide) et (g := (mkF m 271 #[.val (.int p0), .val (.int p1), .val (.int p2), .val (.int p3), .val (.int p4), .val (.int z5), .val (.int n6), .val (.int c0), .val (.int c1), .val (.int c2), .val .null, .val (.int (0 : Int32)), .unset] [.null])) rfl (by rw [hml]; rfl) (lenOf own_pd__28Ljava_2flang_2fString_3b_29Ljava_2flang_2fString_3b rfl) rfl (W := 0) (by show 2 * 0 + _ ≤ _; exact Nat.le_of_eq rfl) (hb hby at_271) (by decide) (by decide) (by decide) (by decide)
      obtain ⟨rfl, Nq536, eq536⟩ := hQ536
      have N536 := Fr.app Nt Nq536
      refine oT st536 ?_
      show own_goW _ _ _ _ _ _ _ _ _ _ (T536.setTop (mkF m 274 #[.val (.int p0), .val (.int p1), .val (.int p2), .val (.int p3), .val (.int p4), .val (.int z5), .val (.int n6), .val (.int c0), .val (.int c1), .val (.int c2), .val .null, .val (.int (0 : Int32)), .unset] [.null]))
      refine oT (fun _ k => XS.astore X536.here hx rfl (hb hby at_274) rfl rfl (l' := #[.val (.int p0), .val (.int p1), .val (.int p2), .val (.int p3), .val (.int p4), .val (.int z5), .val (.int n6), .val (.int c0), .val (.int c1), .val (.int c2), .val .null, .val (.int (0 : Int32)), .val .null]) rfl k) ?_
      refine oT (fun _ k => XS.iload X536.here hx rfl (hb hby at_276) rfl k) ?_
      show own_goW _ _ _ _ _ _ _ _ _ _ (T536.setTop (mkF m 278 #[.val (.int p0), .val (.int p1), .val (.int p2), .val (.int p3), .val (.int p4), .val (.int z5), .val (.int n6), .val (.int c0), .val (.int c1), .val (.int c2), .val .null, .val (.int (0 : Int32)), .val .null] [(.int (0 : Int32))]))
      refine oT (fun _ k => XS.ifNo X536.here hx rfl (hb hby at_278) rfl (by decide) k) ?_
      refine oT (fun _ k => XS.aload X536.here hx rfl (hb hby at_281) rfl rfl k) ?_
      show own_goW _ _ _ _ _ _ _ _ _ _ (T536.setTop (mkF m 283 #[.val (.int p0), .val (.int p1), .val (.int p2), .val (.int p3), .val (.int p4), .val (.int z5), .val (.int n6), .val (.int c0), .val (.int c1), .val (.int c2), .val .null, .val (.int (0 : Int32)), .val .null] [.null]))
      refine oT (fun _ k => XS.ifnonnullNo X536.here hx rfl (hb hby at_283) rfl k) ?_
      refine oT (fun _ k => XS.iconst X536.here hx rfl (hb hby at_286) k) ?_
      refine oT (fun _ k => XS.goto X536.here hx rfl (pc0 := 287) (pc' := 291) rfl (hb hby at_287) (by decide) (by decide) k) ?_
      show own_goW _ _ _ _ _ _ _ _ _ _ (T536.setTop (mkF m 291 #[.val (.int p0), .val (.int p1), .val (.int p2), .val (.int p3), .val (.int p4), .val (.int z5), .val (.int n6), .val (.int c0), .val (.int c1), .val (.int c2), .val .null, .val (.int (0 : Int32)), .val .null] [(.int (1 : Int32))]))
      exact own_retNW X536 hx hlk hS0 hk0 hZ hEL C0 eq536 (t := .boolean) hret (by simp) rfl (hb hby at_291) (by decide) (by decide) (⟨rfl, N536⟩)
  have tail57 : ∀ (Tt : State) (lc : List Loc) (z5 n6 c0 c1 : Int32), Stand p l e room_1 (s.setVm s.vm) m #[(.int p0), (.int p1), (.int p2), (.int p3), (.int p4)] below meth c Tt lc 0 0 → Tt.heap = h0 → Fr n0 lc → (n6 = (0 : Int32) ∨ n6 = (1 : Int32) ∨ n6 = (2 : Int32) ∨ n6 = (3 : Int32)) → own_ch c0 → own_ch c1 → own_goW Z consts_1 p e below s h0 (fun v h L => v = some (.int 1) ∧ Fr n0 L) room_1.cells room_1.slots (Tt.setTop (mkF m 57 #[.val (.int p0), .val (.int p1), .val (.int p2), .val (.int p3), .val (.int p4), .val (.int z5), .val (.int n6), .val (.int c0), .val (.int c1), .unset, .unset, .unset, .unset] [])) := by
    intro Tt lc z5 n6 c0 c1 Xt et Nt hn6 hc0 hc1
    show own_goW _ _ _ _ _ _ _ _ _ _ (Tt.setTop (mkF m 57 #[.val (.int p0), .val (.int p1), .val (.int p2), .val (.int p3), .val (.int p4), .val (.int z5), .val (.int n6), .val (.int c0), .val (.int c1), .unset, .unset, .unset, .unset] []))
    refine oT (fun _ k => XS.iloadN Xt.here hx rfl (hb hby at_57) rfl k) ?_
    refine oT (fun _ k => XS.iload Xt.here hx rfl (hb hby at_58) rfl k) ?_
    refine oT (fun _ k => XS.iconst Xt.here hx rfl (hb hby at_60) k) ?_
    refine oT (fun _ k => XS.iand Xt.here hx rfl (hb hby at_61) rfl k) ?_
    show own_goW _ _ _ _ _ _ _ _ _ _ (Tt.setTop (mkF m 62 #[.val (.int p0), .val (.int p1), .val (.int p2), .val (.int p3), .val (.int p4), .val (.int z5), .val (.int n6), .val (.int c0), .val (.int c1), .unset, .unset, .unset, .unset] [(.int (p4 &&& (4 : Int32))), (.int p3)]))
    by_cases hc537 : (p4 &&& (4 : Int32)) = (0 : Int32)
    · skip
      refine oT (fun _ k => XS.ifYes Xt.here hx rfl (pc0 := 62) (pc' := 69) rfl (hb hby at_62) rfl (XT.i0_eq_t hc537) (by decide) (by decide) k) ?_
      refine oT (fun _ k => XS.iconst Xt.here hx rfl (hb hby at_69) k) ?_
      show own_goW _ _ _ _ _ _ _ _ _ _ (Tt.setTop (mkF m 70 #[.val (.int p0), .val (.int p1), .val (.int p2), .val (.int p3), .val (.int p4), .val (.int z5), .val (.int n6), .val (.int c0), .val (.int c1), .unset, .unset, .unset, .unset] [(.int (0 : Int32)), (.int p3)]))
      obtain ⟨v538, T538, L538, X538, hQ538, st538⟩ := own_callS Xt hx hZ (argsL := [(.int p3), (.int (0 : Int32))]) (rest := []) (rm_pick l Z a0 hw p3 (0 : Int32) h0 n0 O0) hown (ow hw 0 rfl) (ow hw 1 rfl) (ow hw 2 rfl) (ow hw 3 rfl) (by decide) et (g := (mkF m 70 #[.val (.int p0), .val (.int p1), .val (.int p2), .val (.int p3), .val (.int p4), .val (.int z5), .val (.int n6), .val (.int c0), .val (.int c1), .unset, .unset, .unset, .unset] [(.int (0 : Int32)), (.int p3)])) rfl (by rw [hml]; rfl) (lenOf own_pd__28IZ_29C rfl) rfl (W := 0) (by show 2 * 0 + _ ≤ _; exact Nat.le_of_eq rfl) (hb hby at_70) (by decide) (by decide) (by decide) (by decide)
      obtain ⟨c538, rfl, Nq538, eq538, hc538⟩ := hQ538
      have N538 := Fr.app Nt Nq538
      refine oT st538 ?_
      show own_goW _ _ _ _ _ _ _ _ _ _ (T538.setTop (mkF m 73 #[.val (.int p0), .val (.int p1), .val (.int p2), .val (.int p3), .val (.int p4), .val (.int z5), .val (.int n6), .val (.int c0), .val (.int c1), .unset, .unset, .unset, .unset] [(.int c538)]))
      refine oT (fun _ k => XS.istore X538.here hx rfl (hb hby at_73) rfl (l' := #[.val (.int p0), .val (.int p1), .val (.int p2), .val (.int p3), .val (.int p4), .val (.int z5), .val (.int n6), .val (.int c0), .val (.int c1), .val (.int c538), .unset, .unset, .unset]) rfl k) ?_
      show own_goW _ _ _ _ _ _ _ _ _ _ (T538.setTop (mkF m 75 #[.val (.int p0), .val (.int p1), .val (.int p2), .val (.int p3), .val (.int p4), .val (.int z5), .val (.int n6), .val (.int c0), .val (.int c1), .val (.int c538), .unset, .unset, .unset] []))
      exact tail75 _ _ z5 n6 c0 c1 c538 X538 eq538 N538 hn6 hc0 hc1 hc538
    · skip
      refine oT (fun _ k => XS.ifNo Xt.here hx rfl (hb hby at_62) rfl (XT.i0_eq_f hc537) k) ?_
      refine oT (fun _ k => XS.iconst Xt.here hx rfl (hb hby at_65) k) ?_
      refine oT (fun _ k => XS.goto Xt.here hx rfl (pc0 := 66) (pc' := 70) rfl (hb hby at_66) (by decide) (by decide) k) ?_
      show own_goW _ _ _ _ _ _ _ _ _ _ (Tt.setTop (mkF m 70 #[.val (.int p0), .val (.int p1), .val (.int p2), .val (.int p3), .val (.int p4), .val (.int z5), .val (.int n6), .val (.int c0), .val (.int c1), .unset, .unset, .unset, .unset] [(.int (1 : Int32)), (.int p3)]))
      obtain ⟨v539, T539, L539, X539, hQ539, st539⟩ := own_callS Xt hx hZ (argsL := [(.int p3), (.int (1 : Int32))]) (rest := []) (rm_pick l Z a0 hw p3 (1 : Int32) h0 n0 O0) hown (ow hw 0 rfl) (ow hw 1 rfl) (ow hw 2 rfl) (ow hw 3 rfl) (by decide) et (g := (mkF m 70 #[.val (.int p0), .val (.int p1), .val (.int p2), .val (.int p3), .val (.int p4), .val (.int z5), .val (.int n6), .val (.int c0), .val (.int c1), .unset, .unset, .unset, .unset] [(.int (1 : Int32)), (.int p3)])) rfl (by rw [hml]; rfl) (lenOf own_pd__28IZ_29C rfl) rfl (W := 0) (by show 2 * 0 + _ ≤ _; exact Nat.le_of_eq rfl) (hb hby at_70) (by decide) (by decide) (by decide) (by decide)
      obtain ⟨c539, rfl, Nq539, eq539, hc539⟩ := hQ539
      have N539 := Fr.app Nt Nq539
      refine oT st539 ?_
      show own_goW _ _ _ _ _ _ _ _ _ _ (T539.setTop (mkF m 73 #[.val (.int p0), .val (.int p1), .val (.int p2), .val (.int p3), .val (.int p4), .val (.int z5), .val (.int n6), .val (.int c0), .val (.int c1), .unset, .unset, .unset, .unset] [(.int c539)]))
      refine oT (fun _ k => XS.istore X539.here hx rfl (hb hby at_73) rfl (l' := #[.val (.int p0), .val (.int p1), .val (.int p2), .val (.int p3), .val (.int p4), .val (.int z5), .val (.int n6), .val (.int c0), .val (.int c1), .val (.int c539), .unset, .unset, .unset]) rfl k) ?_
      show own_goW _ _ _ _ _ _ _ _ _ _ (T539.setTop (mkF m 75 #[.val (.int p0), .val (.int p1), .val (.int p2), .val (.int p3), .val (.int p4), .val (.int z5), .val (.int n6), .val (.int c0), .val (.int c1), .val (.int c539), .unset, .unset, .unset] []))
      exact tail75 _ _ z5 n6 c0 c1 c539 X539 eq539 N539 hn6 hc0 hc1 hc539
  have tail39 : ∀ (Tt : State) (lc : List Loc) (z5 n6 c0 : Int32), Stand p l e room_1 (s.setVm s.vm) m #[(.int p0), (.int p1), (.int p2), (.int p3), (.int p4)] below meth c Tt lc 0 0 → Tt.heap = h0 → Fr n0 lc → (n6 = (0 : Int32) ∨ n6 = (1 : Int32) ∨ n6 = (2 : Int32) ∨ n6 = (3 : Int32)) → own_ch c0 → own_goW Z consts_1 p e below s h0 (fun v h L => v = some (.int 1) ∧ Fr n0 L) room_1.cells room_1.slots (Tt.setTop (mkF m 39 #[.val (.int p0), .val (.int p1), .val (.int p2), .val (.int p3), .val (.int p4), .val (.int z5), .val (.int n6), .val (.int c0), .unset, .unset, .unset, .unset, .unset] [])) := by
    intro Tt lc z5 n6 c0 Xt et Nt hn6 hc0
    show own_goW _ _ _ _ _ _ _ _ _ _ (Tt.setTop (mkF m 39 #[.val (.int p0), .val (.int p1), .val (.int p2), .val (.int p3), .val (.int p4), .val (.int z5), .val (.int n6), .val (.int c0), .unset, .unset, .unset, .unset, .unset] []))
    refine oT (fun _ k => XS.iloadN Xt.here hx rfl (hb hby at_39) rfl k) ?_
    refine oT (fun _ k => XS.iload Xt.here hx rfl (hb hby at_40) rfl k) ?_
    refine oT (fun _ k => XS.iconst Xt.here hx rfl (hb hby at_42) k) ?_
    refine oT (fun _ k => XS.iand Xt.here hx rfl (hb hby at_43) rfl k) ?_
    show own_goW _ _ _ _ _ _ _ _ _ _ (Tt.setTop (mkF m 44 #[.val (.int p0), .val (.int p1), .val (.int p2), .val (.int p3), .val (.int p4), .val (.int z5), .val (.int n6), .val (.int c0), .unset, .unset, .unset, .unset, .unset] [(.int (p4 &&& (2 : Int32))), (.int p2)]))
    by_cases hc540 : (p4 &&& (2 : Int32)) = (0 : Int32)
    · skip
      refine oT (fun _ k => XS.ifYes Xt.here hx rfl (pc0 := 44) (pc' := 51) rfl (hb hby at_44) rfl (XT.i0_eq_t hc540) (by decide) (by decide) k) ?_
      refine oT (fun _ k => XS.iconst Xt.here hx rfl (hb hby at_51) k) ?_
      show own_goW _ _ _ _ _ _ _ _ _ _ (Tt.setTop (mkF m 52 #[.val (.int p0), .val (.int p1), .val (.int p2), .val (.int p3), .val (.int p4), .val (.int z5), .val (.int n6), .val (.int c0), .unset, .unset, .unset, .unset, .unset] [(.int (0 : Int32)), (.int p2)]))
      obtain ⟨v541, T541, L541, X541, hQ541, st541⟩ := own_callS Xt hx hZ (argsL := [(.int p2), (.int (0 : Int32))]) (rest := []) (rm_pick l Z a0 hw p2 (0 : Int32) h0 n0 O0) hown (ow hw 0 rfl) (ow hw 1 rfl) (ow hw 2 rfl) (ow hw 3 rfl) (by decide) et (g := (mkF m 52 #[.val (.int p0), .val (.int p1), .val (.int p2), .val (.int p3), .val (.int p4), .val (.int z5), .val (.int n6), .val (.int c0), .unset, .unset, .unset, .unset, .unset] [(.int (0 : Int32)), (.int p2)])) rfl (by rw [hml]; rfl) (lenOf own_pd__28IZ_29C rfl) rfl (W := 0) (by show 2 * 0 + _ ≤ _; exact Nat.le_of_eq rfl) (hb hby at_52) (by decide) (by decide) (by decide) (by decide)
      obtain ⟨c541, rfl, Nq541, eq541, hc541⟩ := hQ541
      have N541 := Fr.app Nt Nq541
      refine oT st541 ?_
      show own_goW _ _ _ _ _ _ _ _ _ _ (T541.setTop (mkF m 55 #[.val (.int p0), .val (.int p1), .val (.int p2), .val (.int p3), .val (.int p4), .val (.int z5), .val (.int n6), .val (.int c0), .unset, .unset, .unset, .unset, .unset] [(.int c541)]))
      refine oT (fun _ k => XS.istore X541.here hx rfl (hb hby at_55) rfl (l' := #[.val (.int p0), .val (.int p1), .val (.int p2), .val (.int p3), .val (.int p4), .val (.int z5), .val (.int n6), .val (.int c0), .val (.int c541), .unset, .unset, .unset, .unset]) rfl k) ?_
      show own_goW _ _ _ _ _ _ _ _ _ _ (T541.setTop (mkF m 57 #[.val (.int p0), .val (.int p1), .val (.int p2), .val (.int p3), .val (.int p4), .val (.int z5), .val (.int n6), .val (.int c0), .val (.int c541), .unset, .unset, .unset, .unset] []))
      exact tail57 _ _ z5 n6 c0 c541 X541 eq541 N541 hn6 hc0 hc541
    · skip
      refine oT (fun _ k => XS.ifNo Xt.here hx rfl (hb hby at_44) rfl (XT.i0_eq_f hc540) k) ?_
      refine oT (fun _ k => XS.iconst Xt.here hx rfl (hb hby at_47) k) ?_
      refine oT (fun _ k => XS.goto Xt.here hx rfl (pc0 := 48) (pc' := 52) rfl (hb hby at_48) (by decide) (by decide) k) ?_
      show own_goW _ _ _ _ _ _ _ _ _ _ (Tt.setTop (mkF m 52 #[.val (.int p0), .val (.int p1), .val (.int p2), .val (.int p3), .val (.int p4), .val (.int z5), .val (.int n6), .val (.int c0), .unset, .unset, .unset, .unset, .unset] [(.int (1 : Int32)), (.int p2)]))
      obtain ⟨v542, T542, L542, X542, hQ542, st542⟩ := own_callS Xt hx hZ (argsL := [(.int p2), (.int (1 : Int32))]) (rest := []) (rm_pick l Z a0 hw p2 (1 : Int32) h0 n0 O0) hown (ow hw 0 rfl) (ow hw 1 rfl) (ow hw 2 rfl) (ow hw 3 rfl) (by decide) et (g := (mkF m 52 #[.val (.int p0), .val (.int p1), .val (.int p2), .val (.int p3), .val (.int p4), .val (.int z5), .val (.int n6), .val (.int c0), .unset, .unset, .unset, .unset, .unset] [(.int (1 : Int32)), (.int p2)])) rfl (by rw [hml]; rfl) (lenOf own_pd__28IZ_29C rfl) rfl (W := 0) (by show 2 * 0 + _ ≤ _; exact Nat.le_of_eq rfl) (hb hby at_52) (by decide) (by decide) (by decide) (by decide)
      obtain ⟨c542, rfl, Nq542, eq542, hc542⟩ := hQ542
      have N542 := Fr.app Nt Nq542
      refine oT st542 ?_
      show own_goW _ _ _ _ _ _ _ _ _ _ (T542.setTop (mkF m 55 #[.val (.int p0), .val (.int p1), .val (.int p2), .val (.int p3), .val (.int p4), .val (.int z5), .val (.int n6), .val (.int c0), .unset, .unset, .unset, .unset, .unset] [(.int c542)]))
      refine oT (fun _ k => XS.istore X542.here hx rfl (hb hby at_55) rfl (l' := #[.val (.int p0), .val (.int p1), .val (.int p2), .val (.int p3), .val (.int p4), .val (.int z5), .val (.int n6), .val (.int c0), .val (.int c542), .unset, .unset, .unset, .unset]) rfl k) ?_
      show own_goW _ _ _ _ _ _ _ _ _ _ (T542.setTop (mkF m 57 #[.val (.int p0), .val (.int p1), .val (.int p2), .val (.int p3), .val (.int p4), .val (.int z5), .val (.int n6), .val (.int c0), .val (.int c542), .unset, .unset, .unset, .unset] []))
      exact tail57 _ _ z5 n6 c0 c542 X542 eq542 N542 hn6 hc0 hc542
  refine oT (fun _ k => XS.iloadN X0.here hx rfl (hb hby at_0) rfl k) ?_
  refine oT (fun _ k => XS.bipush X0.here hx rfl (hb hby at_1) k) ?_
  refine oT (fun _ k => XS.iand X0.here hx rfl (hb hby at_3) rfl k) ?_
  refine oT (fun _ k => XS.bipush X0.here hx rfl (hb hby at_4) k) ?_
  show own_goW _ _ _ _ _ _ _ _ _ _ (s₁.setTop (mkF m 6 #[.val (.int p0), .val (.int p1), .val (.int p2), .val (.int p3), .val (.int p4), .unset, .unset, .unset, .unset, .unset, .unset, .unset, .unset] [(.int (7 : Int32)), (.int (p0 &&& (7 : Int32)))]))
  by_cases hc543 : (p0 &&& (7 : Int32)) = (7 : Int32)
  · skip
    refine oT (fun _ k => XS.icmpNo X0.here hx rfl (hb hby at_6) rfl (XT.ii_ne_f hc543) k) ?_
    refine oT (fun _ k => XS.iconst X0.here hx rfl (hb hby at_9) k) ?_
    refine oT (fun _ k => XS.goto X0.here hx rfl (pc0 := 10) (pc' := 14) rfl (hb hby at_10) (by decide) (by decide) k) ?_
    refine oT (fun _ k => XS.istore X0.here hx rfl (hb hby at_14) rfl (l' := #[.val (.int p0), .val (.int p1), .val (.int p2), .val (.int p3), .val (.int p4), .val (.int (1 : Int32)), .unset, .unset, .unset, .unset, .unset, .unset, .unset]) rfl k) ?_
    refine oT (fun _ k => XS.iloadN X0.here hx rfl (hb hby at_16) rfl k) ?_
    show own_goW _ _ _ _ _ _ _ _ _ _ (s₁.setTop (mkF m 17 #[.val (.int p0), .val (.int p1), .val (.int p2), .val (.int p3), .val (.int p4), .val (.int (1 : Int32)), .unset, .unset, .unset, .unset, .unset, .unset, .unset] [(.int p0)]))
    refine oT (fun _ k => XS.iconst X0.here hx rfl (hb hby at_17) k) ?_
    refine oT (fun _ k => XS.iand X0.here hx rfl (hb hby at_18) rfl k) ?_
    refine oT (fun _ k => XS.istore X0.here hx rfl (hb hby at_19) rfl (l' := #[.val (.int p0), .val (.int p1), .val (.int p2), .val (.int p3), .val (.int p4), .val (.int (1 : Int32)), .val (.int (p0 &&& (3 : Int32))), .unset, .unset, .unset, .unset, .unset, .unset]) rfl k) ?_
    refine oT (fun _ k => XS.iloadN X0.here hx rfl (hb hby at_21) rfl k) ?_
    refine oT (fun _ k => XS.iload X0.here hx rfl (hb hby at_22) rfl k) ?_
    show own_goW _ _ _ _ _ _ _ _ _ _ (s₁.setTop (mkF m 24 #[.val (.int p0), .val (.int p1), .val (.int p2), .val (.int p3), .val (.int p4), .val (.int (1 : Int32)), .val (.int (p0 &&& (3 : Int32))), .unset, .unset, .unset, .unset, .unset, .unset] [(.int p4), (.int p1)]))
    refine oT (fun _ k => XS.iconst X0.here hx rfl (hb hby at_24) k) ?_
    refine oT (fun _ k => XS.iand X0.here hx rfl (hb hby at_25) rfl k) ?_
    show own_goW _ _ _ _ _ _ _ _ _ _ (s₁.setTop (mkF m 26 #[.val (.int p0), .val (.int p1), .val (.int p2), .val (.int p3), .val (.int p4), .val (.int (1 : Int32)), .val (.int (p0 &&& (3 : Int32))), .unset, .unset, .unset, .unset, .unset, .unset] [(.int (p4 &&& (1 : Int32))), (.int p1)]))
    by_cases hc544 : (p4 &&& (1 : Int32)) = (0 : Int32)
    · skip
      refine oT (fun _ k => XS.ifYes X0.here hx rfl (pc0 := 26) (pc' := 33) rfl (hb hby at_26) rfl (XT.i0_eq_t hc544) (by decide) (by decide) k) ?_
      refine oT (fun _ k => XS.iconst X0.here hx rfl (hb hby at_33) k) ?_
      show own_goW _ _ _ _ _ _ _ _ _ _ (s₁.setTop (mkF m 34 #[.val (.int p0), .val (.int p1), .val (.int p2), .val (.int p3), .val (.int p4), .val (.int (1 : Int32)), .val (.int (p0 &&& (3 : Int32))), .unset, .unset, .unset, .unset, .unset, .unset] [(.int (0 : Int32)), (.int p1)]))
      obtain ⟨v545, T545, L545, X545, hQ545, st545⟩ := own_callS X0 hx hZ (argsL := [(.int p1), (.int (0 : Int32))]) (rest := []) (rm_pick l Z a0 hw p1 (0 : Int32) h0 n0 O0) hown (ow hw 0 rfl) (ow hw 1 rfl) (ow hw 2 rfl) (ow hw 3 rfl) (by decide) e0 (g := (mkF m 34 #[.val (.int p0), .val (.int p1), .val (.int p2), .val (.int p3), .val (.int p4), .val (.int (1 : Int32)), .val (.int (p0 &&& (3 : Int32))), .unset, .unset, .unset, .unset, .unset, .unset] [(.int (0 : Int32)), (.int p1)])) rfl (by rw [hml]; rfl) (lenOf own_pd__28IZ_29C rfl) rfl (W := 0) (by show 2 * 0 + _ ≤ _; exact Nat.le_of_eq rfl) (hb hby at_34) (by decide) (by decide) (by decide) (by decide)
      obtain ⟨c545, rfl, Nq545, eq545, hc545⟩ := hQ545
      have N545 := Fr.app N0 Nq545
      refine oT st545 ?_
      show own_goW _ _ _ _ _ _ _ _ _ _ (T545.setTop (mkF m 37 #[.val (.int p0), .val (.int p1), .val (.int p2), .val (.int p3), .val (.int p4), .val (.int (1 : Int32)), .val (.int (p0 &&& (3 : Int32))), .unset, .unset, .unset, .unset, .unset, .unset] [(.int c545)]))
      refine oT (fun _ k => XS.istore X545.here hx rfl (hb hby at_37) rfl (l' := #[.val (.int p0), .val (.int p1), .val (.int p2), .val (.int p3), .val (.int p4), .val (.int (1 : Int32)), .val (.int (p0 &&& (3 : Int32))), .val (.int c545), .unset, .unset, .unset, .unset, .unset]) rfl k) ?_
      show own_goW _ _ _ _ _ _ _ _ _ _ (T545.setTop (mkF m 39 #[.val (.int p0), .val (.int p1), .val (.int p2), .val (.int p3), .val (.int p4), .val (.int (1 : Int32)), .val (.int (p0 &&& (3 : Int32))), .val (.int c545), .unset, .unset, .unset, .unset, .unset] []))
      exact tail39 _ _ (1 : Int32) (p0 &&& (3 : Int32)) c545 X545 eq545 N545 (own_m3 p0) hc545
    · skip
      refine oT (fun _ k => XS.ifNo X0.here hx rfl (hb hby at_26) rfl (XT.i0_eq_f hc544) k) ?_
      refine oT (fun _ k => XS.iconst X0.here hx rfl (hb hby at_29) k) ?_
      refine oT (fun _ k => XS.goto X0.here hx rfl (pc0 := 30) (pc' := 34) rfl (hb hby at_30) (by decide) (by decide) k) ?_
      show own_goW _ _ _ _ _ _ _ _ _ _ (s₁.setTop (mkF m 34 #[.val (.int p0), .val (.int p1), .val (.int p2), .val (.int p3), .val (.int p4), .val (.int (1 : Int32)), .val (.int (p0 &&& (3 : Int32))), .unset, .unset, .unset, .unset, .unset, .unset] [(.int (1 : Int32)), (.int p1)]))
      obtain ⟨v546, T546, L546, X546, hQ546, st546⟩ := own_callS X0 hx hZ (argsL := [(.int p1), (.int (1 : Int32))]) (rest := []) (rm_pick l Z a0 hw p1 (1 : Int32) h0 n0 O0) hown (ow hw 0 rfl) (ow hw 1 rfl) (ow hw 2 rfl) (ow hw 3 rfl) (by decide) e0 (g := (mkF m 34 #[.val (.int p0), .val (.int p1), .val (.int p2), .val (.int p3), .val (.int p4), .val (.int (1 : Int32)), .val (.int (p0 &&& (3 : Int32))), .unset, .unset, .unset, .unset, .unset, .unset] [(.int (1 : Int32)), (.int p1)])) rfl (by rw [hml]; rfl) (lenOf own_pd__28IZ_29C rfl) rfl (W := 0) (by show 2 * 0 + _ ≤ _; exact Nat.le_of_eq rfl) (hb hby at_34) (by decide) (by decide) (by decide) (by decide)
      obtain ⟨c546, rfl, Nq546, eq546, hc546⟩ := hQ546
      have N546 := Fr.app N0 Nq546
      refine oT st546 ?_
      show own_goW _ _ _ _ _ _ _ _ _ _ (T546.setTop (mkF m 37 #[.val (.int p0), .val (.int p1), .val (.int p2), .val (.int p3), .val (.int p4), .val (.int (1 : Int32)), .val (.int (p0 &&& (3 : Int32))), .unset, .unset, .unset, .unset, .unset, .unset] [(.int c546)]))
      refine oT (fun _ k => XS.istore X546.here hx rfl (hb hby at_37) rfl (l' := #[.val (.int p0), .val (.int p1), .val (.int p2), .val (.int p3), .val (.int p4), .val (.int (1 : Int32)), .val (.int (p0 &&& (3 : Int32))), .val (.int c546), .unset, .unset, .unset, .unset, .unset]) rfl k) ?_
      show own_goW _ _ _ _ _ _ _ _ _ _ (T546.setTop (mkF m 39 #[.val (.int p0), .val (.int p1), .val (.int p2), .val (.int p3), .val (.int p4), .val (.int (1 : Int32)), .val (.int (p0 &&& (3 : Int32))), .val (.int c546), .unset, .unset, .unset, .unset, .unset] []))
      exact tail39 _ _ (1 : Int32) (p0 &&& (3 : Int32)) c546 X546 eq546 N546 (own_m3 p0) hc546
  · skip
    refine oT (fun _ k => XS.icmpYes X0.here hx rfl (pc0 := 6) (pc' := 13) rfl (hb hby at_6) rfl (XT.ii_ne_t hc543) (by decide) (by decide) k) ?_
    refine oT (fun _ k => XS.iconst X0.here hx rfl (hb hby at_13) k) ?_
    refine oT (fun _ k => XS.istore X0.here hx rfl (hb hby at_14) rfl (l' := #[.val (.int p0), .val (.int p1), .val (.int p2), .val (.int p3), .val (.int p4), .val (.int (0 : Int32)), .unset, .unset, .unset, .unset, .unset, .unset, .unset]) rfl k) ?_
    refine oT (fun _ k => XS.iloadN X0.here hx rfl (hb hby at_16) rfl k) ?_
    refine oT (fun _ k => XS.iconst X0.here hx rfl (hb hby at_17) k) ?_
    show own_goW _ _ _ _ _ _ _ _ _ _ (s₁.setTop (mkF m 18 #[.val (.int p0), .val (.int p1), .val (.int p2), .val (.int p3), .val (.int p4), .val (.int (0 : Int32)), .unset, .unset, .unset, .unset, .unset, .unset, .unset] [(.int (3 : Int32)), (.int p0)]))
    refine oT (fun _ k => XS.iand X0.here hx rfl (hb hby at_18) rfl k) ?_
    refine oT (fun _ k => XS.istore X0.here hx rfl (hb hby at_19) rfl (l' := #[.val (.int p0), .val (.int p1), .val (.int p2), .val (.int p3), .val (.int p4), .val (.int (0 : Int32)), .val (.int (p0 &&& (3 : Int32))), .unset, .unset, .unset, .unset, .unset, .unset]) rfl k) ?_
    refine oT (fun _ k => XS.iloadN X0.here hx rfl (hb hby at_21) rfl k) ?_
    refine oT (fun _ k => XS.iload X0.here hx rfl (hb hby at_22) rfl k) ?_
    refine oT (fun _ k => XS.iconst X0.here hx rfl (hb hby at_24) k) ?_
    show own_goW _ _ _ _ _ _ _ _ _ _ (s₁.setTop (mkF m 25 #[.val (.int p0), .val (.int p1), .val (.int p2), .val (.int p3), .val (.int p4), .val (.int (0 : Int32)), .val (.int (p0 &&& (3 : Int32))), .unset, .unset, .unset, .unset, .unset, .unset] [(.int (1 : Int32)), (.int p4), (.int p1)]))
    refine oT (fun _ k => XS.iand X0.here hx rfl (hb hby at_25) rfl k) ?_
    show own_goW _ _ _ _ _ _ _ _ _ _ (s₁.setTop (mkF m 26 #[.val (.int p0), .val (.int p1), .val (.int p2), .val (.int p3), .val (.int p4), .val (.int (0 : Int32)), .val (.int (p0 &&& (3 : Int32))), .unset, .unset, .unset, .unset, .unset, .unset] [(.int (p4 &&& (1 : Int32))), (.int p1)]))
    by_cases hc547 : (p4 &&& (1 : Int32)) = (0 : Int32)
    · skip
      refine oT (fun _ k => XS.ifYes X0.here hx rfl (pc0 := 26) (pc' := 33) rfl (hb hby at_26) rfl (XT.i0_eq_t hc547) (by decide) (by decide) k) ?_
      refine oT (fun _ k => XS.iconst X0.here hx rfl (hb hby at_33) k) ?_
      show own_goW _ _ _ _ _ _ _ _ _ _ (s₁.setTop (mkF m 34 #[.val (.int p0), .val (.int p1), .val (.int p2), .val (.int p3), .val (.int p4), .val (.int (0 : Int32)), .val (.int (p0 &&& (3 : Int32))), .unset, .unset, .unset, .unset, .unset, .unset] [(.int (0 : Int32)), (.int p1)]))
      obtain ⟨v548, T548, L548, X548, hQ548, st548⟩ := own_callS X0 hx hZ (argsL := [(.int p1), (.int (0 : Int32))]) (rest := []) (rm_pick l Z a0 hw p1 (0 : Int32) h0 n0 O0) hown (ow hw 0 rfl) (ow hw 1 rfl) (ow hw 2 rfl) (ow hw 3 rfl) (by decide) e0 (g := (mkF m 34 #[.val (.int p0), .val (.int p1), .val (.int p2), .val (.int p3), .val (.int p4), .val (.int (0 : Int32)), .val (.int (p0 &&& (3 : Int32))), .unset, .unset, .unset, .unset, .unset, .unset] [(.int (0 : Int32)), (.int p1)])) rfl (by rw [hml]; rfl) (lenOf own_pd__28IZ_29C rfl) rfl (W := 0) (by show 2 * 0 + _ ≤ _; exact Nat.le_of_eq rfl) (hb hby at_34) (by decide) (by decide) (by decide) (by decide)
      obtain ⟨c548, rfl, Nq548, eq548, hc548⟩ := hQ548
      have N548 := Fr.app N0 Nq548
      refine oT st548 ?_
      show own_goW _ _ _ _ _ _ _ _ _ _ (T548.setTop (mkF m 37 #[.val (.int p0), .val (.int p1), .val (.int p2), .val (.int p3), .val (.int p4), .val (.int (0 : Int32)), .val (.int (p0 &&& (3 : Int32))), .unset, .unset, .unset, .unset, .unset, .unset] [(.int c548)]))
      refine oT (fun _ k => XS.istore X548.here hx rfl (hb hby at_37) rfl (l' := #[.val (.int p0), .val (.int p1), .val (.int p2), .val (.int p3), .val (.int p4), .val (.int (0 : Int32)), .val (.int (p0 &&& (3 : Int32))), .val (.int c548), .unset, .unset, .unset, .unset, .unset]) rfl k) ?_
      show own_goW _ _ _ _ _ _ _ _ _ _ (T548.setTop (mkF m 39 #[.val (.int p0), .val (.int p1), .val (.int p2), .val (.int p3), .val (.int p4), .val (.int (0 : Int32)), .val (.int (p0 &&& (3 : Int32))), .val (.int c548), .unset, .unset, .unset, .unset, .unset] []))
      exact tail39 _ _ (0 : Int32) (p0 &&& (3 : Int32)) c548 X548 eq548 N548 (own_m3 p0) hc548
    · skip
      refine oT (fun _ k => XS.ifNo X0.here hx rfl (hb hby at_26) rfl (XT.i0_eq_f hc547) k) ?_
      refine oT (fun _ k => XS.iconst X0.here hx rfl (hb hby at_29) k) ?_
      refine oT (fun _ k => XS.goto X0.here hx rfl (pc0 := 30) (pc' := 34) rfl (hb hby at_30) (by decide) (by decide) k) ?_
      show own_goW _ _ _ _ _ _ _ _ _ _ (s₁.setTop (mkF m 34 #[.val (.int p0), .val (.int p1), .val (.int p2), .val (.int p3), .val (.int p4), .val (.int (0 : Int32)), .val (.int (p0 &&& (3 : Int32))), .unset, .unset, .unset, .unset, .unset, .unset] [(.int (1 : Int32)), (.int p1)]))
      obtain ⟨v549, T549, L549, X549, hQ549, st549⟩ := own_callS X0 hx hZ (argsL := [(.int p1), (.int (1 : Int32))]) (rest := []) (rm_pick l Z a0 hw p1 (1 : Int32) h0 n0 O0) hown (ow hw 0 rfl) (ow hw 1 rfl) (ow hw 2 rfl) (ow hw 3 rfl) (by decide) e0 (g := (mkF m 34 #[.val (.int p0), .val (.int p1), .val (.int p2), .val (.int p3), .val (.int p4), .val (.int (0 : Int32)), .val (.int (p0 &&& (3 : Int32))), .unset, .unset, .unset, .unset, .unset, .unset] [(.int (1 : Int32)), (.int p1)])) rfl (by rw [hml]; rfl) (lenOf own_pd__28IZ_29C rfl) rfl (W := 0) (by show 2 * 0 + _ ≤ _; exact Nat.le_of_eq rfl) (hb hby at_34) (by decide) (by decide) (by decide) (by decide)
      obtain ⟨c549, rfl, Nq549, eq549, hc549⟩ := hQ549
      have N549 := Fr.app N0 Nq549
      refine oT st549 ?_
      show own_goW _ _ _ _ _ _ _ _ _ _ (T549.setTop (mkF m 37 #[.val (.int p0), .val (.int p1), .val (.int p2), .val (.int p3), .val (.int p4), .val (.int (0 : Int32)), .val (.int (p0 &&& (3 : Int32))), .unset, .unset, .unset, .unset, .unset, .unset] [(.int c549)]))
      refine oT (fun _ k => XS.istore X549.here hx rfl (hb hby at_37) rfl (l' := #[.val (.int p0), .val (.int p1), .val (.int p2), .val (.int p3), .val (.int p4), .val (.int (0 : Int32)), .val (.int (p0 &&& (3 : Int32))), .val (.int c549), .unset, .unset, .unset, .unset, .unset]) rfl k) ?_
      show own_goW _ _ _ _ _ _ _ _ _ _ (T549.setTop (mkF m 39 #[.val (.int p0), .val (.int p1), .val (.int p2), .val (.int p3), .val (.int p4), .val (.int (0 : Int32)), .val (.int (p0 &&& (3 : Int32))), .val (.int c549), .unset, .unset, .unset, .unset, .unset] []))
      exact tail39 _ _ (0 : Int32) (p0 &&& (3 : Int32)) c549 X549 eq549 N549 (own_m3 p0) hc549
set_option maxRecDepth 65536 in
set_option maxHeartbeats 40000000 in
theorem comes_1 {Post : Tables → Env → Array Value → State → Outcome → State → Prop} (hpost : ∀ tb e args s v u, (limb_1_1.after args s (.returned v) u = true ∧ limb_1_2.after args s (.returned v) u = true ∧ True) → ReturnedEndW s (.returned v) u (Jvm.fieldLocs frame_1_writes args s ++ Jvm.arrayLocs frame_1_arrays args s ++ Jvm.staticLocs frame_1_statics s) 24 1152 → Post tb e args s (.returned v) u) :
    ArmFor flags0 classFile x code maxLocals ret World_1 tables_1 room_1 Calls_1 rest_1 Pre_1 Post := by
  intro l hfl _ _ p e ha hc hk s m args below hf hA hF happ hP
  obtain ⟨hcalls, hrest, hpre⟩ := hP
  obtain ⟨-, -, -, hnamed, -, -, -, hat⟩ := (Spec.applies_iff hf).mp happ
  obtain ⟨hg, hn⟩ := and_e (Cond.before_iff.mp (show (Jvm.Cond.and given_1 narrow_1).before args s = true from hpre))
  obtain ⟨h1, hg0⟩ := and_e hg
  obtain ⟨w0, w1, w2, w3, w4, rfl⟩ : ∃ w0 w1 w2 w3 w4 : Value, args = #[w0, w1, w2, w3, w4] := by
    have hs : args.size = 5 := by simpa [Cond.value, given_1] using h1
    obtain ⟨L⟩ := args
    match L, hs with
    | [w0, w1, w2, w3, w4], _ => exact ⟨w0, w1, w2, w3, w4, rfl⟩
  have hw := fun d (hd : d ∈ tables_1) => atoms_spec (ws := Jvm.Cond.code x code maxLocals ret :: tables_1) hat d (List.mem_cons_of_mem _ hd)
  obtain ⟨ha0, hg1⟩ := and_e hg0
  obtain ⟨i0, e0⟩ := is_v ha0
  obtain rfl : w0 = (.int i0) := Option.some.inj e0
  obtain ⟨ha1, hg2⟩ := and_e hg1
  obtain ⟨i1, e1⟩ := is_v ha1
  obtain rfl : w1 = (.int i1) := Option.some.inj e1
  obtain ⟨ha2, hg3⟩ := and_e hg2
  obtain ⟨i2, e2⟩ := is_v ha2
  obtain rfl : w2 = (.int i2) := Option.some.inj e2
  obtain ⟨ha3, hg4⟩ := and_e hg3
  obtain ⟨i3, e3⟩ := is_v ha3
  obtain rfl : w3 = (.int i3) := Option.some.inj e3
  obtain ⟨i4, e4⟩ := is_v hg4
  obtain rfl : w4 = (.int i4) := Option.some.inj e4
  obtain ⟨hsets, hown0⟩ := atoms_of _ (rest_1_c_eq ▸ (show rest_1_c.before _ s = true from hrest))
  have hfit : Fit s := fun {y c} hc i hi => by
    obtain ⟨ha, rfl⟩ := Array.getElem?_eq_some_iff.mp hc
    have q := List.all_eq_true.mp ((Array.all_eq_true_iff_forall_mem.mp hF) _ (Array.getElem_mem ha)) i (List.mem_range.mpr hi)
    simpa [Array.getElem?_eq_getElem hi] using q
  have n1 := hn
  have m1 := Cond.before_iff.mp (hsets _ (List.mem_of_getElem? (i := 1) rfl))
  obtain ⟨zC, v_zC⟩ := is_v m1
  have S_zC := Sta.start v_zC (Or.inl (hsets _ (List.mem_of_getElem? (i := 0) rfl)))
  have m2 := Cond.before_iff.mp (hsets _ (List.mem_of_getElem? (i := 2) rfl))
  have nz_zC := own_nz v_zC m2
  have m8 := Cond.before_iff.mp (hsets _ (List.mem_of_getElem? (i := 8) rfl))
  obtain ⟨vS, ev_vS, ir_vS⟩ := isR_v m8
  have S_vS := Sta.start ev_vS (Or.inl (hsets _ (List.mem_of_getElem? (i := 7) rfl)))
  have m12 := Cond.before_iff.mp (hsets _ (List.mem_of_getElem? (i := 12) rfl))
  have S_i__assertionsDisabled := Sta.start (own_eqI m12) (Or.inl (hsets _ (List.mem_of_getElem? (i := 11) rfl)))
  have m15 := Cond.before_iff.mp (hsets _ (List.mem_of_getElem? (i := 15) rfl))
  have S_i_HI_BYTE_SHIFT := Sta.start (own_eqI m15) (Or.inl (hsets _ (List.mem_of_getElem? (i := 14) rfl)))
  have m18 := Cond.before_iff.mp (hsets _ (List.mem_of_getElem? (i := 18) rfl))
  have S_i_LO_BYTE_SHIFT := Sta.start (own_eqI m18) (Or.inl (hsets _ (List.mem_of_getElem? (i := 17) rfl)))
  have hS : own_S s zC vS := ⟨S_zC, nz_zC, S_vS, ir_vS, S_i__assertionsDisabled, S_i_HI_BYTE_SHIFT, S_i_LO_BYTE_SHIFT⟩

  have hCH : CHv s consts_1 s.vm s.heap := CHv.start (own_EW hw) (fun p hp => hcalls.1 p hp) (show Jvm.Lit.compactW.before _ s = true from hsets _ (List.mem_of_getElem? (i := 2) rfl)) (ow hw 19 rfl) (ow hw 5 rfl)
  obtain ⟨n, o, h1, h2, h3, _, L, rfl, ⟨rfl, N⟩, -, hq⟩ := rm0 l s _ hw tables_1 i0 i1 i2 i3 i4 zC vS s.heap s.heap.size (Old.start s) hS p e ha hc hk s m _ below hf ((Spec.applies_iff_loose hf).mp happ).1 ⟨rfl, State.Warmed39.refl s, rfl, hCH⟩ trivial
  refine ⟨n, _, h1, h2, h3, hpost _ _ _ _ _ _ ⟨Cond.after_iff.mpr rfl, Cond.after_iff.mpr (eq_i res_at (Term.int_eval (1)) rfl), trivial⟩ ⟨hq.1, hq.2.1, hq.2.2.1, (hq.2.2.2.sift fun y hy => Or.inr (N y hy)).mono (by decide) (by decide)⟩⟩
theorem main_1_1 : Claimed_1_1 := comes_1 fun _ _ _ _ _ _ h hF => ⟨h.1, hF⟩
theorem main_1_2 : Claimed_1_2 := comes_1 fun _ _ _ _ _ _ h hF => ⟨h.2.1, hF⟩
end Jvm.Pilot.@@N@@
namespace Jvm.Pilot.@@N@@
open Jvm Jvm.ClassFile Sem Op Lib Jvm.Free Jvm.Stand Jvm.Pilot.@@N@@.Jvm.D
/-! MADE BY PROGRAM (witnessworld.py) out of the Statement's table words and the real class files: 20 classes; the members and pool entries that the words name. The judged class is class 1, her method 1. -/
namespace start1
open Jvm.ClassFile
def u (s : String) : CpInfo := .utf8 (stringToUtf16 s)
/-- a pool by its gaps: so many unusable entries, then the entry; so many at the end -/
def gap : Nat → List CpInfo → List CpInfo
  | 0, r => r
  | n + 1, r => .unusable :: gap n r
def poolList (es : List (Nat × CpInfo)) (last : Nat) : List CpInfo := es.foldr (fun e r => gap e.1 (e.2 :: r)) (gap last [])
def pool (es : List (Nat × CpInfo)) (last : Nat) : Array CpInfo := ⟨poolList es last⟩
def fileOf (pool : Array CpInfo) (this : Nat) (attrs : Array Attribute := #[]) (ms : Array MethodInfo := #[]) (fl : Nat := 33) (sup : Nat := 0) (ifs : Array Nat := #[]) (fds : Array FieldInfo := #[]) : ClassFile where
  minorVersion := 0
  majorVersion := 65
  constantPool := pool
  accessFlags := fl
  thisClass := this
  superClass := sup
  interfaces := ifs
  fields := fds
  methods := ms
  attributes := attrs
def plain (name : String) (sup : Option ClassId) : Class where
  name := name
  kind := .ordinary
  loader := none
  accessFlags := 33
  super := sup
  interfaces := #[]
  cf := none
  fields := #[]
  methods := #[]
  instanceTypes := #[]
  staticTypes := #[]
  resolved := #[]
  callSites := []
  init := .initialized
  statics := none
  mirror := none

def pool0 : Array CpInfo := pool [(5, u "<init>"), (0, u "()V"), (1, .class_ 10), (1, u "java/lang/Object")] 113

def k0c0 : Code := { maxStack := 0, maxLocals := 1, code := object_method_1_code, exceptionTable := #[], attributes := #[] }
def k0m0 : Method := { name := "<init>", desc := "()V", sig := { parameters := [], returnType := none }, accessFlags := 1, code := some k0c0 }
/-- java/lang/Object -/
def k0 : Class := { plain "java/lang/Object" none with
  accessFlags := 33
  interfaces := #[]
  cf := some (fileOf pool0 8 #[] #[{ accessFlags := 1, nameIndex := 5, descriptorIndex := 6, attributes := #[] }] 33 0 #[] #[])
  fields := #[]
  methods := #[k0m0]
  instanceTypes := #[]
  staticTypes := #[]
  resolved := Array.replicate 124 none
  statics := none }

def pool1 : Array CpInfo := pool [(2, .class_ 4), (1, u "java/lang/Object"), (0, u "<init>"), (0, u "()V"), (0, .methodref 8 9), (0, .class_ 10), (0, .nameAndType 11 12), (0, u "com/example/lynceus/lynceus/probe/HeaderValueKeepablePinLaw"), (0, u "pick"), (0, u "(IZ)C"), (0, .class_ 14), (0, u "java/lang/String"), (0, .methodref 13 16), (0, .nameAndType 5 17), (0, u "([C)V"), (0, .methodref 8 19), (0, .nameAndType 20 21), (0, u "printable"), (0, u "(C)Z"), (0, .methodref 23 24), (0, .class_ 25), (0, .nameAndType 26 27), (0, u "com/example/lynceus/lynceus/probe/HeaderValue"), (0, u "keepable"), (0, u "(Ljava/lang/String;)Ljava/lang/String;"), (0, .methodref 13 29), (0, .nameAndType 30 31), (0, u "equals"), (0, u "(Ljava/lang/Object;)Z"), (2, u "law"), (0, u "(IIIII)Z")] 5

def k1m0 : Method := { name := "<init>", desc := "()V", sig := { parameters := [], returnType := none }, accessFlags := 2, code := none }
def k1c1 : Code := { maxStack := 4, maxLocals := 13, code := code, exceptionTable := #[], attributes := #[] }
def k1m1 : Method := { name := "law", desc := "(IIIII)Z", sig := { parameters := [.int, .int, .int, .int, .int], returnType := some .boolean }, accessFlags := 9, code := some k1c1 }
def k1c2 : Code := { maxStack := 2, maxLocals := 2, code := method_3_code, exceptionTable := #[], attributes := #[] }
def k1m2 : Method := { name := "pick", desc := "(IZ)C", sig := { parameters := [.int, .boolean], returnType := some .char }, accessFlags := 10, code := some k1c2 }
def k1c3 : Code := { maxStack := 2, maxLocals := 1, code := method_4_code, exceptionTable := #[], attributes := #[] }
def k1m3 : Method := { name := "printable", desc := "(C)Z", sig := { parameters := [.char], returnType := some .boolean }, accessFlags := 10, code := some k1c3 }
/-- com/example/lynceus/lynceus/probe/HeaderValueKeepablePinLaw -/
def k1 : Class := { plain "com/example/lynceus/lynceus/probe/HeaderValueKeepablePinLaw" (some 0) with
  accessFlags := 49
  interfaces := #[]
  cf := some (fileOf pool1 8 #[] #[{ accessFlags := 2, nameIndex := 5, descriptorIndex := 6, attributes := #[] }, { accessFlags := 9, nameIndex := 34, descriptorIndex := 35, attributes := #[] }, { accessFlags := 10, nameIndex := 11, descriptorIndex := 12, attributes := #[] }, { accessFlags := 10, nameIndex := 20, descriptorIndex := 21, attributes := #[] }] 49 2 #[] #[])
  fields := #[]
  methods := #[k1m0, k1m1, k1m2, k1m3]
  instanceTypes := #[]
  staticTypes := #[]
  resolved := Array.replicate 41 none
  statics := none }

def pool2 : Array CpInfo := pool [(1, .class_ 2), (0, u "java/io/Serializable"), (0, .class_ 4), (0, u "java/lang/Object")] 2

/-- java/io/Serializable -/
def k2 : Class := { plain "java/io/Serializable" (some 0) with
  accessFlags := 1537
  interfaces := #[]
  cf := some (fileOf pool2 1 #[] #[] 1537 3 #[] #[])
  fields := #[]
  methods := #[]
  instanceTypes := #[]
  staticTypes := #[]
  resolved := Array.replicate 7 none
  statics := none }

def pool3 : Array CpInfo := pool [(1, .class_ 2), (0, u "java/lang/Comparable"), (0, .class_ 4), (0, u "java/lang/Object")] 7

/-- java/lang/Comparable -/
def k3 : Class := { plain "java/lang/Comparable" (some 0) with
  accessFlags := 1537
  interfaces := #[]
  cf := some (fileOf pool3 1 #[] #[] 1537 3 #[] #[])
  fields := #[]
  methods := #[]
  instanceTypes := #[]
  staticTypes := #[]
  resolved := Array.replicate 12 none
  statics := none }

def pool4 : Array CpInfo := pool [(2, .class_ 4), (1, u "java/lang/CharSequence"), (42, .class_ 48), (0, u "java/lang/CharSequence$1CodePointIterator"), (10, .class_ 60), (0, u "java/lang/CharSequence$1CharIterator"), (5, .class_ 67), (0, u "java/lang/Object")] 63

/-- java/lang/CharSequence -/
def k4 : Class := { plain "java/lang/CharSequence" (some 0) with
  accessFlags := 1537
  interfaces := #[]
  cf := some (fileOf pool4 2 #[.nestMembers #[47, 59]] #[] 1537 66 #[] #[])
  fields := #[]
  methods := #[]
  instanceTypes := #[]
  staticTypes := #[]
  resolved := Array.replicate 131 none
  statics := none }

def pool5 : Array CpInfo := pool [(1, .class_ 2), (0, u "java/lang/constant/Constable"), (0, .class_ 4), (0, u "java/lang/Object")] 6

/-- java/lang/constant/Constable -/
def k5 : Class := { plain "java/lang/constant/Constable" (some 0) with
  accessFlags := 1537
  interfaces := #[]
  cf := some (fileOf pool5 1 #[] #[] 1537 3 #[] #[])
  fields := #[]
  methods := #[]
  instanceTypes := #[]
  staticTypes := #[]
  resolved := Array.replicate 11 none
  statics := none }

def pool6 : Array CpInfo := pool [(1, .class_ 2), (0, u "java/lang/constant/ConstantDesc"), (0, .class_ 4), (0, u "java/lang/Object")] 32

/-- java/lang/constant/ConstantDesc -/
def k6 : Class := { plain "java/lang/constant/ConstantDesc" (some 0) with
  accessFlags := 1537
  interfaces := #[]
  cf := some (fileOf pool6 1 #[] #[] 1537 3 #[] #[])
  fields := #[]
  methods := #[]
  instanceTypes := #[]
  staticTypes := #[]
  resolved := Array.replicate 37 none
  statics := none }

def pool7 : Array CpInfo := pool [(1, .methodref 2 3), (0, .class_ 4), (0, .nameAndType 5 6), (0, u "java/lang/Object"), (0, u "<init>"), (0, u "()V"), (0, .string 8), (0, u ""), (0, .fieldref 10 11), (0, .class_ 12), (0, .nameAndType 13 14), (0, u "java/lang/String"), (0, u "value"), (0, u "[B"), (0, .fieldref 10 16), (0, .nameAndType 17 18), (0, u "coder"), (0, u "B"), (2, u "hash"), (0, u "I"), (2, u "hashIsZero"), (0, u "Z"), (0, .methodref 10 28), (0, .nameAndType 5 29), (0, u "([CIILjava/lang/Void;)V"), (8, .fieldref 10 39), (0, .nameAndType 40 26), (0, u "COMPACT_STRINGS"), (1, .class_ 44), (1, u "java/lang/StringUTF16"), (0, u "compress"), (1, .methodref 42 48), (0, .nameAndType 49 50), (0, u "coderFromArrayLen"), (0, u "([BI)B"), (56, .class_ 109), (1, u "java/lang/StringLatin1"), (32, u "()Z"), (34, .methodref 42 178), (0, .nameAndType 45 179), (0, u "([CII)[B"), (154, u "()I"), (0, .methodref 10 336), (0, .nameAndType 17 337), (0, u "()B"), (25, u "([BI)C"), (27, u "(II)V"), (35, u "(I)C"), (64, .methodref 10 493), (0, .nameAndType 494 142), (0, u "isLatin1"), (0, .methodref 107 496), (0, .nameAndType 497 363), (0, u "charAt"), (0, .methodref 42 496), (2, u "checkIndex"), (5, u "length"), (35, u "equals"), (29, u "(Ljava/lang/Object;)Z"), (1, .class_ 576), (0, u "java/lang/CharSequence"), (22, u "CASE_INSENSITIVE_ORDER"), (0, u "Ljava/util/Comparator;"), (91, u "isEmpty"), (317, u "([C)V"), (42, .fieldref 1054 1055), (0, .class_ 1056), (0, .nameAndType 1057 1058), (0, u "jdk/internal/util/Preconditions"), (0, u "SIOOBE_FORMATTER"), (0, u "Ljava/util/function/BiFunction;"), (0, .methodref 1054 1060), (0, .nameAndType 501 1061), (0, u "(IILjava/util/function/BiFunction;)I"), (39, u "serialPersistentFields"), (0, u "[Ljava/io/ObjectStreamField;"), (0, .class_ 1104), (0, u "java/lang/String$CaseInsensitiveComparator"), (1, .class_ 1107), (0, u "java/io/Serializable"), (0, .class_ 1109), (0, u "java/lang/Comparable"), (0, .class_ 1111), (0, u "java/lang/constant/Constable"), (0, .class_ 1113), (0, u "java/lang/constant/ConstantDesc"), (2, u "serialVersionUID"), (0, u "J"), (3, u "REPL"), (0, u "C"), (2, u "LATIN1"), (1, u "UTF16")] 323

def k7m0 : Method := { name := "<init>", desc := "()V", sig := { parameters := [], returnType := none }, accessFlags := 1, code := none }
def k7c1 : Code := { maxStack := 5, maxLocals := 2, code := jdk_42_method_3_code, exceptionTable := #[], attributes := #[] }
def k7m1 : Method := { name := "<init>", desc := "([C)V", sig := { parameters := [(.array .char)], returnType := none }, accessFlags := 1, code := some k7c1 }
def k7c2 : Code := { maxStack := 2, maxLocals := 1, code := jdk_42_method_54_code, exceptionTable := #[], attributes := #[] }
def k7m2 : Method := { name := "length", desc := "()I", sig := { parameters := [], returnType := some .int }, accessFlags := 1, code := some k7c2 }
def k7c3 : Code := { maxStack := 1, maxLocals := 1, code := jdk_42_method_55_code, exceptionTable := #[], attributes := #[] }
def k7m3 : Method := { name := "isEmpty", desc := "()Z", sig := { parameters := [], returnType := some .boolean }, accessFlags := 1, code := some k7c3 }
def k7c4 : Code := { maxStack := 2, maxLocals := 2, code := jdk_42_method_56_code, exceptionTable := #[], attributes := #[] }
def k7m4 : Method := { name := "charAt", desc := "(I)C", sig := { parameters := [.int], returnType := some .char }, accessFlags := 1, code := some k7c4 }
def k7c5 : Code := { maxStack := 2, maxLocals := 3, code := jdk_42_method_66_code, exceptionTable := #[], attributes := #[] }
def k7m5 : Method := { name := "equals", desc := "(Ljava/lang/Object;)Z", sig := { parameters := [(.object "java/lang/Object")], returnType := some .boolean }, accessFlags := 1, code := some k7c5 }
def k7c6 : Code := { maxStack := 4, maxLocals := 6, code := jdk_42_method_149_code, exceptionTable := #[], attributes := #[] }
def k7m6 : Method := { name := "<init>", desc := "([CIILjava/lang/Void;)V", sig := { parameters := [(.array .char), .int, .int, (.object "java/lang/Void")], returnType := none }, accessFlags := 2, code := some k7c6 }
def k7c7 : Code := { maxStack := 1, maxLocals := 1, code := jdk_42_method_152_code, exceptionTable := #[], attributes := #[] }
def k7m7 : Method := { name := "coder", desc := "()B", sig := { parameters := [], returnType := some .byte }, accessFlags := 0, code := some k7c7 }
def k7c8 : Code := { maxStack := 1, maxLocals := 1, code := jdk_42_method_154_code, exceptionTable := #[], attributes := #[] }
def k7m8 : Method := { name := "isLatin1", desc := "()Z", sig := { parameters := [], returnType := some .boolean }, accessFlags := 0, code := some k7c8 }
def k7c9 : Code := { maxStack := 3, maxLocals := 2, code := jdk_42_method_155_code, exceptionTable := #[], attributes := #[] }
def k7m9 : Method := { name := "checkIndex", desc := "(II)V", sig := { parameters := [.int, .int], returnType := none }, accessFlags := 8, code := some k7c9 }
/-- java/lang/String -/
def k7 : Class := { plain "java/lang/String" (some 0) with
  accessFlags := 49
  interfaces := #[2, 3, 4, 5, 6]
  cf := some (fileOf pool7 10 #[.nestMembers #[1103]] #[{ accessFlags := 1, nameIndex := 5, descriptorIndex := 6, attributes := #[] }, { accessFlags := 1, nameIndex := 5, descriptorIndex := 1010, attributes := #[] }, { accessFlags := 1, nameIndex := 507, descriptorIndex := 334, attributes := #[] }, { accessFlags := 1, nameIndex := 692, descriptorIndex := 142, attributes := #[] }, { accessFlags := 1, nameIndex := 497, descriptorIndex := 427, attributes := #[] }, { accessFlags := 1, nameIndex := 543, descriptorIndex := 573, attributes := #[] }, { accessFlags := 2, nameIndex := 5, descriptorIndex := 29, attributes := #[] }, { accessFlags := 0, nameIndex := 17, descriptorIndex := 337, attributes := #[] }, { accessFlags := 0, nameIndex := 494, descriptorIndex := 142, attributes := #[] }, { accessFlags := 8, nameIndex := 501, descriptorIndex := 391, attributes := #[] }] 49 2 #[1106, 1108, 575, 1110, 1112] #[{ accessFlags := 18, nameIndex := 13, descriptorIndex := 14, attributes := #[] }, { accessFlags := 18, nameIndex := 17, descriptorIndex := 18, attributes := #[] }, { accessFlags := 2, nameIndex := 21, descriptorIndex := 22, attributes := #[] }, { accessFlags := 2, nameIndex := 25, descriptorIndex := 26, attributes := #[] }, { accessFlags := 26, nameIndex := 1116, descriptorIndex := 1117, attributes := #[] }, { accessFlags := 24, nameIndex := 40, descriptorIndex := 26, attributes := #[] }, { accessFlags := 26, nameIndex := 1101, descriptorIndex := 1102, attributes := #[] }, { accessFlags := 26, nameIndex := 1121, descriptorIndex := 1122, attributes := #[] }, { accessFlags := 25, nameIndex := 599, descriptorIndex := 600, attributes := #[] }, { accessFlags := 24, nameIndex := 1125, descriptorIndex := 18, attributes := #[] }, { accessFlags := 24, nameIndex := 1127, descriptorIndex := 18, attributes := #[] }])
  fields := #[{ name := "value", type := (.array .byte), accessFlags := 18, slot := 0, constantValue := 0 }, { name := "coder", type := .byte, accessFlags := 18, slot := 1, constantValue := 0 }, { name := "hash", type := .int, accessFlags := 2, slot := 2, constantValue := 0 }, { name := "hashIsZero", type := .boolean, accessFlags := 2, slot := 3, constantValue := 0 }, { name := "serialVersionUID", type := .long, accessFlags := 26, slot := 0, constantValue := 0 }, { name := "COMPACT_STRINGS", type := .boolean, accessFlags := 24, slot := 1, constantValue := 0 }, { name := "serialPersistentFields", type := (.array (.object "java/io/ObjectStreamField")), accessFlags := 26, slot := 2, constantValue := 0 }, { name := "REPL", type := .char, accessFlags := 26, slot := 3, constantValue := 0 }, { name := "CASE_INSENSITIVE_ORDER", type := (.object "java/util/Comparator"), accessFlags := 25, slot := 4, constantValue := 0 }, { name := "LATIN1", type := .byte, accessFlags := 24, slot := 5, constantValue := 0 }, { name := "UTF16", type := .byte, accessFlags := 24, slot := 6, constantValue := 0 }]
  methods := #[k7m0, k7m1, k7m2, k7m3, k7m4, k7m5, k7m6, k7m7, k7m8, k7m9]
  instanceTypes := #[(.array .byte), .byte, .int, .boolean]
  staticTypes := #[.long, .boolean, (.array (.object "java/io/ObjectStreamField")), .char, (.object "java/util/Comparator"), .byte, .byte]
  resolved := Array.replicate 1451 none
  statics := some 0 }

def pool8 : Array CpInfo := pool [(2, .class_ 4), (1, u "java/lang/Object"), (0, u "<init>"), (0, u "()V"), (0, .methodref 8 9), (0, .class_ 10), (0, .nameAndType 11 12), (0, u "java/lang/String"), (0, u "isEmpty"), (0, u "()Z"), (0, .methodref 8 14), (0, .nameAndType 15 16), (0, u "length"), (0, u "()I"), (0, .class_ 18), (0, u "com/example/lynceus/lynceus/probe/HeaderValue"), (0, .methodref 8 20), (0, .nameAndType 21 22), (0, u "charAt"), (0, u "(I)C"), (0, u "MAX_LENGTH"), (0, u "I"), (2, u "FIRST_PRINTABLE"), (0, u "C"), (1, u "LAST_PRINTABLE"), (3, u "keepable"), (0, u "(Ljava/lang/String;)Ljava/lang/String;")] 3

def k8m0 : Method := { name := "<init>", desc := "()V", sig := { parameters := [], returnType := none }, accessFlags := 2, code := none }
def k8c1 : Code := { maxStack := 2, maxLocals := 3, code := prog_50_method_2_code, exceptionTable := #[], attributes := #[] }
def k8m1 : Method := { name := "keepable", desc := "(Ljava/lang/String;)Ljava/lang/String;", sig := { parameters := [(.object "java/lang/String")], returnType := some (.object "java/lang/String") }, accessFlags := 8, code := some k8c1 }
/-- com/example/lynceus/lynceus/probe/HeaderValue -/
def k8 : Class := { plain "com/example/lynceus/lynceus/probe/HeaderValue" (some 0) with
  accessFlags := 48
  interfaces := #[]
  cf := some (fileOf pool8 17 #[] #[{ accessFlags := 2, nameIndex := 5, descriptorIndex := 6, attributes := #[] }, { accessFlags := 8, nameIndex := 34, descriptorIndex := 35, attributes := #[] }] 48 2 #[] #[{ accessFlags := 26, nameIndex := 23, descriptorIndex := 24, attributes := #[] }, { accessFlags := 26, nameIndex := 27, descriptorIndex := 28, attributes := #[] }, { accessFlags := 26, nameIndex := 30, descriptorIndex := 28, attributes := #[] }])
  fields := #[{ name := "MAX_LENGTH", type := .int, accessFlags := 26, slot := 0, constantValue := 0 }, { name := "FIRST_PRINTABLE", type := .char, accessFlags := 26, slot := 1, constantValue := 0 }, { name := "LAST_PRINTABLE", type := .char, accessFlags := 26, slot := 2, constantValue := 0 }]
  methods := #[k8m0, k8m1]
  instanceTypes := #[]
  staticTypes := #[.int, .char, .char]
  resolved := Array.replicate 39 none
  statics := none }

def pool9 : Array CpInfo := pool [(3, .class_ 4), (0, u "java/lang/String"), (1, .class_ 8), (1, u "java/lang/Object"), (0, u "<init>"), (0, u "()V"), (0, .methodref 12 13), (0, .class_ 14), (0, .nameAndType 15 16), (0, u "java/lang/StringUTF16"), (0, u "newBytesLength"), (0, u "(I)I"), (3, .integer 1073741823), (23, .fieldref 12 45), (0, .nameAndType 46 47), (0, u "$assertionsDisabled"), (0, u "Z"), (0, .methodref 12 49), (0, .nameAndType 50 51), (0, u "length"), (0, u "([B)I"), (7, .fieldref 12 60), (0, .nameAndType 61 62), (0, u "HI_BYTE_SHIFT"), (0, u "I"), (0, .fieldref 12 64), (0, .nameAndType 65 62), (0, u "LO_BYTE_SHIFT"), (1, .methodref 12 68), (0, .nameAndType 69 70), (0, u "checkIndex"), (0, u "(I[B)V"), (0, .methodref 12 72), (0, .nameAndType 73 74), (0, u "getChar"), (0, u "([BI)C"), (32, .methodref 12 108), (0, .nameAndType 109 110), (0, u "newBytesFor"), (0, u "(I)[B"), (0, .methodref 12 112), (0, .nameAndType 113 114), (0, u "putChar"), (0, u "([BII)V"), (0, .methodref 12 116), (0, .nameAndType 117 118), (0, u "compress"), (0, u "([CI[BII)I"), (0, .methodref 12 120), (0, .nameAndType 121 122), (0, u "toBytes"), (0, u "([CII)[B"), (138, u "coderFromArrayLen"), (0, u "([BI)B"), (106, .class_ 371), (1, u "java/lang/StringUTF16$LinesSpliterator"), (20, u "charAt"), (21, .methodref 3 415), (0, .nameAndType 69 416), (0, u "(II)V"), (13, u "MAX_LENGTH"), (196, .class_ 628), (0, u "java/lang/StringUTF16$CodePointsSpliterator"), (0, .class_ 630), (0, u "java/lang/StringUTF16$CharsSpliterator")] 4

def k9m0 : Method := { name := "<init>", desc := "()V", sig := { parameters := [], returnType := none }, accessFlags := 0, code := none }
def k9c1 : Code := { maxStack := 1, maxLocals := 1, code := jdk_52_method_2_code, exceptionTable := #[], attributes := #[] }
def k9m1 : Method := { name := "newBytesFor", desc := "(I)[B", sig := { parameters := [.int], returnType := some (.array .byte) }, accessFlags := 9, code := some k9c1 }
def k9c2 : Code := { maxStack := 4, maxLocals := 1, code := jdk_52_method_3_code, exceptionTable := #[], attributes := #[] }
def k9m2 : Method := { name := "newBytesLength", desc := "(I)I", sig := { parameters := [.int], returnType := some .int }, accessFlags := 9, code := some k9c2 }
def k9c3 : Code := { maxStack := 4, maxLocals := 3, code := jdk_52_method_4_code, exceptionTable := #[], attributes := #[] }
def k9m3 : Method := { name := "putChar", desc := "([BII)V", sig := { parameters := [(.array .byte), .int, .int], returnType := none }, accessFlags := 8, code := some k9c3 }
def k9c4 : Code := { maxStack := 3, maxLocals := 2, code := jdk_52_method_5_code, exceptionTable := #[], attributes := #[] }
def k9m4 : Method := { name := "getChar", desc := "([BI)C", sig := { parameters := [(.array .byte), .int], returnType := some .char }, accessFlags := 8, code := some k9c4 }
def k9c5 : Code := { maxStack := 2, maxLocals := 1, code := jdk_52_method_6_code, exceptionTable := #[], attributes := #[] }
def k9m5 : Method := { name := "length", desc := "([B)I", sig := { parameters := [(.array .byte)], returnType := some .int }, accessFlags := 9, code := some k9c5 }
def k9c6 : Code := { maxStack := 4, maxLocals := 5, code := jdk_52_method_14_code, exceptionTable := #[], attributes := #[] }
def k9m6 : Method := { name := "toBytes", desc := "([CII)[B", sig := { parameters := [(.array .char), .int, .int], returnType := some (.array .byte) }, accessFlags := 9, code := some k9c6 }
def k9c7 : Code := { maxStack := 2, maxLocals := 2, code := jdk_52_method_15_code, exceptionTable := #[], attributes := #[] }
def k9m7 : Method := { name := "coderFromArrayLen", desc := "([BI)B", sig := { parameters := [(.array .byte), .int], returnType := some .byte }, accessFlags := 8, code := some k9c7 }
def k9c8 : Code := { maxStack := 5, maxLocals := 6, code := jdk_52_method_16_code, exceptionTable := #[], attributes := #[] }
def k9m8 : Method := { name := "compress", desc := "([CII)[B", sig := { parameters := [(.array .char), .int, .int], returnType := some (.array .byte) }, accessFlags := 9, code := some k9c8 }
def k9c9 : Code := { maxStack := 3, maxLocals := 7, code := jdk_52_method_21_code, exceptionTable := #[], attributes := #[] }
def k9m9 : Method := { name := "compress", desc := "([CI[BII)I", sig := { parameters := [(.array .char), .int, (.array .byte), .int, .int], returnType := some .int }, accessFlags := 9, code := some k9c9 }
def k9c10 : Code := { maxStack := 2, maxLocals := 2, code := jdk_52_method_83_code, exceptionTable := #[], attributes := #[] }
def k9m10 : Method := { name := "charAt", desc := "([BI)C", sig := { parameters := [(.array .byte), .int], returnType := some .char }, accessFlags := 9, code := some k9c10 }
def k9c11 : Code := { maxStack := 2, maxLocals := 2, code := jdk_52_method_91_code, exceptionTable := #[], attributes := #[] }
def k9m11 : Method := { name := "checkIndex", desc := "(I[B)V", sig := { parameters := [.int, (.array .byte)], returnType := none }, accessFlags := 9, code := some k9c11 }
/-- java/lang/StringUTF16 -/
def k9 : Class := { plain "java/lang/StringUTF16" (some 0) with
  accessFlags := 48
  interfaces := #[]
  cf := some (fileOf pool9 12 #[.nestMembers #[627, 629, 369]] #[{ accessFlags := 0, nameIndex := 9, descriptorIndex := 10, attributes := #[] }, { accessFlags := 9, nameIndex := 109, descriptorIndex := 110, attributes := #[] }, { accessFlags := 9, nameIndex := 15, descriptorIndex := 16, attributes := #[] }, { accessFlags := 8, nameIndex := 113, descriptorIndex := 114, attributes := #[] }, { accessFlags := 8, nameIndex := 73, descriptorIndex := 74, attributes := #[] }, { accessFlags := 9, nameIndex := 50, descriptorIndex := 51, attributes := #[] }, { accessFlags := 9, nameIndex := 121, descriptorIndex := 122, attributes := #[] }, { accessFlags := 8, nameIndex := 261, descriptorIndex := 262, attributes := #[] }, { accessFlags := 9, nameIndex := 117, descriptorIndex := 122, attributes := #[] }, { accessFlags := 9, nameIndex := 117, descriptorIndex := 118, attributes := #[] }, { accessFlags := 9, nameIndex := 392, descriptorIndex := 74, attributes := #[] }, { accessFlags := 9, nameIndex := 69, descriptorIndex := 70, attributes := #[] }] 48 6 #[] #[{ accessFlags := 26, nameIndex := 61, descriptorIndex := 62, attributes := #[] }, { accessFlags := 26, nameIndex := 65, descriptorIndex := 62, attributes := #[] }, { accessFlags := 24, nameIndex := 430, descriptorIndex := 62, attributes := #[] }, { accessFlags := 4120, nameIndex := 46, descriptorIndex := 47, attributes := #[] }])
  fields := #[{ name := "HI_BYTE_SHIFT", type := .int, accessFlags := 26, slot := 0, constantValue := 0 }, { name := "LO_BYTE_SHIFT", type := .int, accessFlags := 26, slot := 1, constantValue := 0 }, { name := "MAX_LENGTH", type := .int, accessFlags := 24, slot := 2, constantValue := 0 }, { name := "$assertionsDisabled", type := .boolean, accessFlags := 4120, slot := 3, constantValue := 0 }]
  methods := #[k9m0, k9m1, k9m2, k9m3, k9m4, k9m5, k9m6, k9m7, k9m8, k9m9, k9m10, k9m11]
  instanceTypes := #[]
  staticTypes := #[.int, .int, .int, .boolean]
  resolved := Array.replicate 635 none
  statics := some 1 }

def pool10 : Array CpInfo := pool [(1, .class_ 2), (0, u "java/lang/String"), (1, .class_ 6), (1, u "java/lang/Object"), (0, u "<init>"), (0, u "()V"), (0, .methodref 1 10), (0, .nameAndType 11 12), (0, u "checkIndex"), (0, u "(II)V"), (1, .class_ 16), (1, u "java/lang/StringLatin1"), (36, u "([BI)C"), (67, u "$assertionsDisabled"), (0, u "Z"), (98, .class_ 223), (1, u "java/lang/StringLatin1$LinesSpliterator"), (28, u "charAt"), (137, .class_ 391), (0, u "java/lang/StringLatin1$CharsSpliterator")] 3

def k10m0 : Method := { name := "<init>", desc := "()V", sig := { parameters := [], returnType := none }, accessFlags := 0, code := none }
def k10c1 : Code := { maxStack := 2, maxLocals := 2, code := jdk_43_method_2_code, exceptionTable := #[], attributes := #[] }
def k10m1 : Method := { name := "charAt", desc := "([BI)C", sig := { parameters := [(.array .byte), .int], returnType := some .char }, accessFlags := 9, code := some k10c1 }
/-- java/lang/StringLatin1 -/
def k10 : Class := { plain "java/lang/StringLatin1" (some 0) with
  accessFlags := 48
  interfaces := #[]
  cf := some (fileOf pool10 14 #[.nestMembers #[390, 221]] #[{ accessFlags := 0, nameIndex := 7, descriptorIndex := 8, attributes := #[] }, { accessFlags := 9, nameIndex := 252, descriptorIndex := 53, attributes := #[] }] 48 4 #[] #[{ accessFlags := 4120, nameIndex := 121, descriptorIndex := 122, attributes := #[] }])
  fields := #[{ name := "$assertionsDisabled", type := .boolean, accessFlags := 4120, slot := 0, constantValue := 0 }]
  methods := #[k10m0, k10m1]
  instanceTypes := #[]
  staticTypes := #[.boolean]
  resolved := Array.replicate 395 none
  statics := none }

def pool11 : Array CpInfo := pool [(2, .class_ 4), (1, u "java/lang/Object"), (0, u "<init>"), (0, u "()V"), (17, .class_ 26), (1, u "jdk/internal/util/Preconditions"), (6, u "checkIndex"), (21, .class_ 56), (0, u "jdk/internal/util/Preconditions$4"), (57, .class_ 115), (0, u "jdk/internal/util/Preconditions$1"), (7, u "SIOOBE_FORMATTER"), (0, u "Ljava/util/function/BiFunction;"), (0, .class_ 126), (0, u "jdk/internal/util/Preconditions$2"), (3, u "AIOOBE_FORMATTER"), (0, .class_ 132), (0, u "jdk/internal/util/Preconditions$3"), (3, u "IOOBE_FORMATTER"), (41, u "(IILjava/util/function/BiFunction;)I")] 15

def k11m0 : Method := { name := "<init>", desc := "()V", sig := { parameters := [], returnType := none }, accessFlags := 1, code := none }
def k11c1 : Code := { maxStack := 3, maxLocals := 3, code := jdk_41_method_11_code, exceptionTable := #[], attributes := #[] }
def k11m1 : Method := { name := "checkIndex", desc := "(IILjava/util/function/BiFunction;)I", sig := { parameters := [.int, .int, (.object "java/util/function/BiFunction")], returnType := some .int }, accessFlags := 9, code := some k11c1 }
/-- jdk/internal/util/Preconditions -/
def k11 : Class := { plain "jdk/internal/util/Preconditions" (some 0) with
  accessFlags := 33
  interfaces := #[]
  cf := some (fileOf pool11 24 #[.nestMembers #[55, 131, 125, 114]] #[{ accessFlags := 1, nameIndex := 5, descriptorIndex := 6, attributes := #[] }, { accessFlags := 9, nameIndex := 33, descriptorIndex := 178, attributes := #[] }] 33 2 #[] #[{ accessFlags := 25, nameIndex := 123, descriptorIndex := 124, attributes := #[] }, { accessFlags := 25, nameIndex := 130, descriptorIndex := 124, attributes := #[] }, { accessFlags := 25, nameIndex := 136, descriptorIndex := 124, attributes := #[] }])
  fields := #[{ name := "SIOOBE_FORMATTER", type := (.object "java/util/function/BiFunction"), accessFlags := 25, slot := 0, constantValue := 0 }, { name := "AIOOBE_FORMATTER", type := (.object "java/util/function/BiFunction"), accessFlags := 25, slot := 1, constantValue := 0 }, { name := "IOOBE_FORMATTER", type := (.object "java/util/function/BiFunction"), accessFlags := 25, slot := 2, constantValue := 0 }]
  methods := #[k11m0, k11m1]
  instanceTypes := #[]
  staticTypes := #[(.object "java/util/function/BiFunction"), (.object "java/util/function/BiFunction"), (.object "java/util/function/BiFunction")]
  resolved := Array.replicate 194 none
  statics := some 2 }

def pool12 : Array CpInfo := pool [(9, u "<init>"), (6, .class_ 18), (1, u "java/lang/Object"), (0, u "()V"), (1, .class_ 23), (1, u "jdk/internal/util/ArraysSupport"), (0, u "LOG2_ARRAY_LONG_INDEX_SCALE"), (0, u "I"), (2, u "U"), (0, u "Ljdk/internal/misc/Unsafe;"), (8, u "BIG_ENDIAN"), (0, u "Z"), (8, u "LOG2_BYTE_BIT_SIZE"), (4, u "LOG2_ARRAY_INT_INDEX_SCALE"), (54, u "JLA"), (0, u "Ljdk/internal/access/JavaLangAccess;"), (11, u "LOG2_ARRAY_BOOLEAN_INDEX_SCALE"), (9, u "LOG2_ARRAY_BYTE_INDEX_SCALE"), (5, u "LOG2_ARRAY_CHAR_INDEX_SCALE"), (5, u "LOG2_ARRAY_SHORT_INDEX_SCALE"), (18, u "LOG2_ARRAY_FLOAT_INDEX_SCALE"), (24, u "LOG2_ARRAY_DOUBLE_INDEX_SCALE"), (89, u "T_BOOLEAN"), (2, u "T_CHAR"), (1, u "T_FLOAT"), (1, u "T_DOUBLE"), (1, u "T_BYTE"), (1, u "T_SHORT"), (1, u "T_INT"), (1, u "T_LONG"), (1, u "SOFT_MAX_ARRAY_LENGTH")] 83

def k12m0 : Method := { name := "<init>", desc := "()V", sig := { parameters := [], returnType := none }, accessFlags := 2, code := none }
/-- jdk/internal/util/ArraysSupport -/
def k12 : Class := { plain "jdk/internal/util/ArraysSupport" (some 0) with
  accessFlags := 33
  interfaces := #[]
  cf := some (fileOf pool12 21 #[] #[{ accessFlags := 2, nameIndex := 9, descriptorIndex := 19, attributes := #[] }] 33 16 #[] #[{ accessFlags := 24, nameIndex := 28, descriptorIndex := 29, attributes := #[] }, { accessFlags := 26, nameIndex := 38, descriptorIndex := 39, attributes := #[] }, { accessFlags := 25, nameIndex := 121, descriptorIndex := 25, attributes := #[] }, { accessFlags := 25, nameIndex := 131, descriptorIndex := 25, attributes := #[] }, { accessFlags := 25, nameIndex := 137, descriptorIndex := 25, attributes := #[] }, { accessFlags := 25, nameIndex := 143, descriptorIndex := 25, attributes := #[] }, { accessFlags := 25, nameIndex := 53, descriptorIndex := 25, attributes := #[] }, { accessFlags := 25, nameIndex := 24, descriptorIndex := 25, attributes := #[] }, { accessFlags := 25, nameIndex := 162, descriptorIndex := 25, attributes := #[] }, { accessFlags := 25, nameIndex := 187, descriptorIndex := 25, attributes := #[] }, { accessFlags := 26, nameIndex := 48, descriptorIndex := 25, attributes := #[] }, { accessFlags := 25, nameIndex := 277, descriptorIndex := 25, attributes := #[] }, { accessFlags := 25, nameIndex := 280, descriptorIndex := 25, attributes := #[] }, { accessFlags := 25, nameIndex := 282, descriptorIndex := 25, attributes := #[] }, { accessFlags := 25, nameIndex := 284, descriptorIndex := 25, attributes := #[] }, { accessFlags := 25, nameIndex := 286, descriptorIndex := 25, attributes := #[] }, { accessFlags := 25, nameIndex := 288, descriptorIndex := 25, attributes := #[] }, { accessFlags := 25, nameIndex := 290, descriptorIndex := 25, attributes := #[] }, { accessFlags := 25, nameIndex := 292, descriptorIndex := 25, attributes := #[] }, { accessFlags := 26, nameIndex := 108, descriptorIndex := 109, attributes := #[] }, { accessFlags := 25, nameIndex := 294, descriptorIndex := 25, attributes := #[] }])
  fields := #[{ name := "U", type := (.object "jdk/internal/misc/Unsafe"), accessFlags := 24, slot := 0, constantValue := 0 }, { name := "BIG_ENDIAN", type := .boolean, accessFlags := 26, slot := 1, constantValue := 0 }, { name := "LOG2_ARRAY_BOOLEAN_INDEX_SCALE", type := .int, accessFlags := 25, slot := 2, constantValue := 0 }, { name := "LOG2_ARRAY_BYTE_INDEX_SCALE", type := .int, accessFlags := 25, slot := 3, constantValue := 0 }, { name := "LOG2_ARRAY_CHAR_INDEX_SCALE", type := .int, accessFlags := 25, slot := 4, constantValue := 0 }, { name := "LOG2_ARRAY_SHORT_INDEX_SCALE", type := .int, accessFlags := 25, slot := 5, constantValue := 0 }, { name := "LOG2_ARRAY_INT_INDEX_SCALE", type := .int, accessFlags := 25, slot := 6, constantValue := 0 }, { name := "LOG2_ARRAY_LONG_INDEX_SCALE", type := .int, accessFlags := 25, slot := 7, constantValue := 0 }, { name := "LOG2_ARRAY_FLOAT_INDEX_SCALE", type := .int, accessFlags := 25, slot := 8, constantValue := 0 }, { name := "LOG2_ARRAY_DOUBLE_INDEX_SCALE", type := .int, accessFlags := 25, slot := 9, constantValue := 0 }, { name := "LOG2_BYTE_BIT_SIZE", type := .int, accessFlags := 26, slot := 10, constantValue := 0 }, { name := "T_BOOLEAN", type := .int, accessFlags := 25, slot := 11, constantValue := 0 }, { name := "T_CHAR", type := .int, accessFlags := 25, slot := 12, constantValue := 0 }, { name := "T_FLOAT", type := .int, accessFlags := 25, slot := 13, constantValue := 0 }, { name := "T_DOUBLE", type := .int, accessFlags := 25, slot := 14, constantValue := 0 }, { name := "T_BYTE", type := .int, accessFlags := 25, slot := 15, constantValue := 0 }, { name := "T_SHORT", type := .int, accessFlags := 25, slot := 16, constantValue := 0 }, { name := "T_INT", type := .int, accessFlags := 25, slot := 17, constantValue := 0 }, { name := "T_LONG", type := .int, accessFlags := 25, slot := 18, constantValue := 0 }, { name := "JLA", type := (.object "jdk/internal/access/JavaLangAccess"), accessFlags := 26, slot := 19, constantValue := 0 }, { name := "SOFT_MAX_ARRAY_LENGTH", type := .int, accessFlags := 25, slot := 20, constantValue := 0 }]
  methods := #[k12m0]
  instanceTypes := #[]
  staticTypes := #[(.object "jdk/internal/misc/Unsafe"), .boolean, .int, .int, .int, .int, .int, .int, .int, .int, .int, .int, .int, .int, .int, .int, .int, .int, .int, (.object "jdk/internal/access/JavaLangAccess"), .int]
  resolved := Array.replicate 378 none
  statics := none }

def pool13 : Array CpInfo := pool [(1, u "java/lang/Cloneable"), (0, .class_ 1), (0, u "java/lang/Object"), (0, .class_ 3)] 3

/-- java/lang/Cloneable -/
def k13 : Class := { plain "java/lang/Cloneable" (some 0) with
  accessFlags := 1537
  interfaces := #[]
  cf := some (fileOf pool13 2 #[] #[] 1537 4 #[] #[])
  fields := #[]
  methods := #[]
  instanceTypes := #[]
  staticTypes := #[]
  resolved := Array.replicate 8 none
  statics := none }

/-- the primitive byte -/
def k14 : Class := { plain "byte" none with kind := .primitive 'B', accessFlags := 0x411 }
/-- [B -/
def k15 : Class := { plain "[B" (some 0) with kind := .array 14 .byte, interfaces := #[13, 2], accessFlags := 1041 }

/-- the primitive char -/
def k16 : Class := { plain "char" none with kind := .primitive 'C', accessFlags := 0x411 }
/-- [C -/
def k17 : Class := { plain "[C" (some 0) with kind := .array 16 .char, interfaces := #[13, 2], accessFlags := 1041 }

/-- the primitive int -/
def k18 : Class := { plain "int" none with kind := .primitive 'I', accessFlags := 0x411 }
/-- [I -/
def k19 : Class := { plain "[I" (some 0) with kind := .array 18 .int, interfaces := #[13, 2], accessFlags := 1041 }

def heap : Heap := #[{ cls := 7, slots := #[.long 0, .int 1, .null, .int 0, .null, .int 0, .int 0], vm := .statics 7 },
  { cls := 9, slots := #[.int 0, .int 8, .int 0, .int 1], vm := .statics 9 },
  { cls := 11, slots := #[.null, .null, .null], vm := .statics 11 }]
def classes : Array Class := #[k0, k1, k2, k3, k4, k5, k6, k7, k8, k9, k10, k11, k12, k13, k14, k15, k16, k17, k18, k19]
def interned : List (Array UInt16 × Addr) := []
def slotsUsed : Nat := 14
def theMethod : MethodId := ⟨1, 1⟩
def args0 : Array Value := #[.int 1, .int 65, .int 66, .int 67, .int 7]
def aboutOver (below : List Frame) : State where
  vm := { classes := classes, interned := interned.toArray }
  heap := heap
  slotsUsed := slotsUsed
  threads := #[{ frames := .invoking theMethod args0 :: below }]
def below0 : List Frame := [.native { method := ⟨0, 0⟩, args := #[] }]
def about1 : State := aboutOver below0
def p0 : Program := .bare "" "" ""
def e0 : Env := launch0.env 0 0 0
theorem w_frames : about1.frames = Frame.invoking theMethod args0 :: below0 := rfl
set_option maxRecDepth 65536 in
theorem w_args : argsFit about1.vm theMethod args0 = true := by decide +kernel
set_option maxRecDepth 65536 in
theorem w_heap : heapFits about1 = true := by decide +kernel
set_option maxRecDepth 65536 in
theorem w_runnable : about1.curStatus? = some .runnable := by decide +kernel
set_option maxRecDepth 65536 in
theorem w_alone : about1.alone = true := by decide +kernel
set_option maxRecDepth 65536 in
theorem w_named : about1.methodNamed? x = some theMethod := by decide +kernel
set_option maxRecDepth 65536 in
theorem w_hears : about1.hears theMethod below0 = true := by decide +kernel
set_option maxRecDepth 65536 in
theorem w_ripe : about1.ripe theMethod args0 below0 = true := by decide +kernel
theorem w_running : about1.status = .running := rfl
set_option maxRecDepth 65536 in
theorem w_room : about1.hasRoom e0.platform room_1 = true :=
  launch0.hasRoom_least _ room_1 (by decide +kernel) (by decide +kernel) (by decide +kernel) (by decide +kernel) (by decide +kernel) (by decide +kernel)
theorem allAtoms_all (ts : List Jvm.Cond) (a : Array Jvm.Value) (st : Jvm.State) : (allAtoms ts).before a st = ts.all (fun c => c.before a st) := by
  induction ts with
  | nil => rfl
  | cons c t ih =>
    show (Jvm.Cond.and c (allAtoms t)).before a st = _
    rw [Jvm.Cond.before_and, ih, List.all_cons]
def words1 : List Jvm.Cond := Jvm.Cond.code x code maxLocals ret :: tables_1
/-- a 'code' word, met by the world's own term for the bytes: nothing is compared byte by byte -/
theorem code_word {y : MethodName} {bytes : ByteArray} {mx : Nat} {rt : Option FieldType} {a : Array Value} {s : State} {m : MethodId} {meth : Method} {c : Code} (h1 : s.methodNamed? y = some m) (h2 : s.vm.method? m = some meth) (h3 : meth.code = some c) (h4 : c.code = bytes)
    (h5 : (c.maxLocals == mx && c.exceptionTable.isEmpty && decide (c.maxStack ≤ mostOperands) && decide (meth.sig.returnType = rt) && !meth.locks && decide (parseMethodDescriptor y.desc = some meth.sig)) = true) : (Jvm.Cond.code y bytes mx rt).before a s = true := by
  simp only [Bool.and_eq_true, beq_iff_eq, Bool.not_eq_true', decide_eq_true_eq] at h5
  obtain ⟨⟨⟨⟨⟨g1, g2⟩, g3⟩, g4⟩, g5⟩, g6⟩ := h5
  simp [Cond.before, Cond.holds, Cond.value, h1, h2, h3, h4, g1, g2, g3, g4, g5, g6]
def isCode : Jvm.Cond → Bool
  | .code _ _ _ _ => true
  | _ => false
theorem all_split {L : List Jvm.Cond} {P : Jvm.Cond → Bool} (h1 : L.all (fun c => isCode c || P c) = true) (h2 : ∀ c ∈ L.filter isCode, P c = true) : L.all P = true := by
  refine List.all_eq_true.mpr fun c hc => ?_
  have h := List.all_eq_true.mp h1 c hc
  rcases Bool.eq_false_or_eq_true (isCode c) with hi | hi
  · exact h2 c (List.mem_filter.mpr ⟨hc, hi⟩)
  · simpa [hi] using h
set_option maxRecDepth 65536 in
theorem w_c0 : (Jvm.Cond.code x code maxLocals ret).before args0 about1 = true := code_word (m := ⟨1, 1⟩) (meth := k1m1) (c := k1c1) (by decide +kernel) rfl rfl rfl (by decide +kernel)
set_option maxRecDepth 65536 in
theorem w_c1 : (Jvm.Cond.code ({ cls := "com/example/lynceus/lynceus/probe/HeaderValueKeepablePinLaw", name := "pick", desc := "(IZ)C" } : Jvm.MethodName) method_3_code (2 : Nat) (Option.some Jvm.ClassFile.FieldType.char)).before args0 about1 = true := code_word (m := ⟨1, 2⟩) (meth := k1m2) (c := k1c2) (by decide +kernel) rfl rfl rfl (by decide +kernel)
set_option maxRecDepth 65536 in
theorem w_c2 : (Jvm.Cond.code ({ cls := "java/lang/String", name := "<init>", desc := "([C)V" } : Jvm.MethodName) jdk_42_method_3_code (2 : Nat) (Option.none : Option Jvm.ClassFile.FieldType)).before args0 about1 = true := code_word (m := ⟨7, 1⟩) (meth := k7m1) (c := k7c1) (by decide +kernel) rfl rfl rfl (by decide +kernel)
set_option maxRecDepth 65536 in
theorem w_c3 : (Jvm.Cond.code ({ cls := "java/lang/String", name := "<init>", desc := "([CIILjava/lang/Void;)V" } : Jvm.MethodName) jdk_42_method_149_code (6 : Nat) (Option.none : Option Jvm.ClassFile.FieldType)).before args0 about1 = true := code_word (m := ⟨7, 6⟩) (meth := k7m6) (c := k7c6) (by decide +kernel) rfl rfl rfl (by decide +kernel)
set_option maxRecDepth 65536 in
theorem w_c4 : (Jvm.Cond.code ({ cls := "java/lang/Object", name := "<init>", desc := "()V" } : Jvm.MethodName) object_method_1_code (1 : Nat) (Option.none : Option Jvm.ClassFile.FieldType)).before args0 about1 = true := code_word (m := ⟨0, 0⟩) (meth := k0m0) (c := k0c0) (by decide +kernel) rfl rfl rfl (by decide +kernel)
set_option maxRecDepth 65536 in
theorem w_c5 : (Jvm.Cond.code ({ cls := "com/example/lynceus/lynceus/probe/HeaderValue", name := "keepable", desc := "(Ljava/lang/String;)Ljava/lang/String;" } : Jvm.MethodName) prog_50_method_2_code (3 : Nat) (Option.some (Jvm.ClassFile.FieldType.object "java/lang/String"))).before args0 about1 = true := code_word (m := ⟨8, 1⟩) (meth := k8m1) (c := k8c1) (by decide +kernel) rfl rfl rfl (by decide +kernel)
set_option maxRecDepth 65536 in
theorem w_c6 : (Jvm.Cond.code ({ cls := "java/lang/String", name := "isEmpty", desc := "()Z" } : Jvm.MethodName) jdk_42_method_55_code (1 : Nat) (Option.some Jvm.ClassFile.FieldType.boolean)).before args0 about1 = true := code_word (m := ⟨7, 3⟩) (meth := k7m3) (c := k7c3) (by decide +kernel) rfl rfl rfl (by decide +kernel)
set_option maxRecDepth 65536 in
theorem w_c7 : (Jvm.Cond.code ({ cls := "java/lang/StringUTF16", name := "compress", desc := "([CII)[B" } : Jvm.MethodName) jdk_52_method_16_code (6 : Nat) (Option.some (Jvm.ClassFile.FieldType.array Jvm.ClassFile.FieldType.byte))).before args0 about1 = true := code_word (m := ⟨9, 8⟩) (meth := k9m8) (c := k9c8) (by decide +kernel) rfl rfl rfl (by decide +kernel)
set_option maxRecDepth 65536 in
theorem w_c8 : (Jvm.Cond.code ({ cls := "java/lang/StringUTF16", name := "compress", desc := "([CI[BII)I" } : Jvm.MethodName) jdk_52_method_21_code (7 : Nat) (Option.some Jvm.ClassFile.FieldType.int)).before args0 about1 = true := code_word (m := ⟨9, 9⟩) (meth := k9m9) (c := k9c9) (by decide +kernel) rfl rfl rfl (by decide +kernel)
set_option maxRecDepth 65536 in
theorem w_c9 : (Jvm.Cond.code ({ cls := "java/lang/StringUTF16", name := "coderFromArrayLen", desc := "([BI)B" } : Jvm.MethodName) jdk_52_method_15_code (2 : Nat) (Option.some Jvm.ClassFile.FieldType.byte)).before args0 about1 = true := code_word (m := ⟨9, 7⟩) (meth := k9m7) (c := k9c7) (by decide +kernel) rfl rfl rfl (by decide +kernel)
set_option maxRecDepth 65536 in
theorem w_c10 : (Jvm.Cond.code ({ cls := "com/example/lynceus/lynceus/probe/HeaderValueKeepablePinLaw", name := "printable", desc := "(C)Z" } : Jvm.MethodName) method_4_code (1 : Nat) (Option.some Jvm.ClassFile.FieldType.boolean)).before args0 about1 = true := code_word (m := ⟨1, 3⟩) (meth := k1m3) (c := k1c3) (by decide +kernel) rfl rfl rfl (by decide +kernel)
set_option maxRecDepth 65536 in
theorem w_c11 : (Jvm.Cond.code ({ cls := "java/lang/String", name := "length", desc := "()I" } : Jvm.MethodName) jdk_42_method_54_code (1 : Nat) (Option.some Jvm.ClassFile.FieldType.int)).before args0 about1 = true := code_word (m := ⟨7, 2⟩) (meth := k7m2) (c := k7c2) (by decide +kernel) rfl rfl rfl (by decide +kernel)
set_option maxRecDepth 65536 in
theorem w_c12 : (Jvm.Cond.code ({ cls := "java/lang/String", name := "coder", desc := "()B" } : Jvm.MethodName) jdk_42_method_152_code (1 : Nat) (Option.some Jvm.ClassFile.FieldType.byte)).before args0 about1 = true := code_word (m := ⟨7, 7⟩) (meth := k7m7) (c := k7c7) (by decide +kernel) rfl rfl rfl (by decide +kernel)
set_option maxRecDepth 65536 in
theorem w_c13 : (Jvm.Cond.code ({ cls := "java/lang/String", name := "charAt", desc := "(I)C" } : Jvm.MethodName) jdk_42_method_56_code (2 : Nat) (Option.some Jvm.ClassFile.FieldType.char)).before args0 about1 = true := code_word (m := ⟨7, 4⟩) (meth := k7m4) (c := k7c4) (by decide +kernel) rfl rfl rfl (by decide +kernel)
set_option maxRecDepth 65536 in
theorem w_c14 : (Jvm.Cond.code ({ cls := "java/lang/String", name := "isLatin1", desc := "()Z" } : Jvm.MethodName) jdk_42_method_154_code (1 : Nat) (Option.some Jvm.ClassFile.FieldType.boolean)).before args0 about1 = true := code_word (m := ⟨7, 8⟩) (meth := k7m8) (c := k7c8) (by decide +kernel) rfl rfl rfl (by decide +kernel)
set_option maxRecDepth 65536 in
theorem w_c15 : (Jvm.Cond.code ({ cls := "java/lang/StringLatin1", name := "charAt", desc := "([BI)C" } : Jvm.MethodName) jdk_43_method_2_code (2 : Nat) (Option.some Jvm.ClassFile.FieldType.char)).before args0 about1 = true := code_word (m := ⟨10, 1⟩) (meth := k10m1) (c := k10c1) (by decide +kernel) rfl rfl rfl (by decide +kernel)
set_option maxRecDepth 65536 in
theorem w_c16 : (Jvm.Cond.code ({ cls := "java/lang/String", name := "checkIndex", desc := "(II)V" } : Jvm.MethodName) jdk_42_method_155_code (2 : Nat) (Option.none : Option Jvm.ClassFile.FieldType)).before args0 about1 = true := code_word (m := ⟨7, 9⟩) (meth := k7m9) (c := k7c9) (by decide +kernel) rfl rfl rfl (by decide +kernel)
set_option maxRecDepth 65536 in
theorem w_c17 : (Jvm.Cond.code ({ cls := "jdk/internal/util/Preconditions", name := "checkIndex", desc := "(IILjava/util/function/BiFunction;)I" } : Jvm.MethodName) jdk_41_method_11_code (3 : Nat) (Option.some Jvm.ClassFile.FieldType.int)).before args0 about1 = true := code_word (m := ⟨11, 1⟩) (meth := k11m1) (c := k11c1) (by decide +kernel) rfl rfl rfl (by decide +kernel)
set_option maxRecDepth 65536 in
theorem w_c18 : (Jvm.Cond.code ({ cls := "java/lang/StringUTF16", name := "toBytes", desc := "([CII)[B" } : Jvm.MethodName) jdk_52_method_14_code (5 : Nat) (Option.some (Jvm.ClassFile.FieldType.array Jvm.ClassFile.FieldType.byte))).before args0 about1 = true := code_word (m := ⟨9, 6⟩) (meth := k9m6) (c := k9c6) (by decide +kernel) rfl rfl rfl (by decide +kernel)
set_option maxRecDepth 65536 in
theorem w_c19 : (Jvm.Cond.code ({ cls := "java/lang/StringUTF16", name := "newBytesFor", desc := "(I)[B" } : Jvm.MethodName) jdk_52_method_2_code (1 : Nat) (Option.some (Jvm.ClassFile.FieldType.array Jvm.ClassFile.FieldType.byte))).before args0 about1 = true := code_word (m := ⟨9, 1⟩) (meth := k9m1) (c := k9c1) (by decide +kernel) rfl rfl rfl (by decide +kernel)
set_option maxRecDepth 65536 in
theorem w_c20 : (Jvm.Cond.code ({ cls := "java/lang/StringUTF16", name := "newBytesLength", desc := "(I)I" } : Jvm.MethodName) jdk_52_method_3_code (1 : Nat) (Option.some Jvm.ClassFile.FieldType.int)).before args0 about1 = true := code_word (m := ⟨9, 2⟩) (meth := k9m2) (c := k9c2) (by decide +kernel) rfl rfl rfl (by decide +kernel)
set_option maxRecDepth 65536 in
theorem w_c21 : (Jvm.Cond.code ({ cls := "java/lang/StringUTF16", name := "putChar", desc := "([BII)V" } : Jvm.MethodName) jdk_52_method_4_code (3 : Nat) (Option.none : Option Jvm.ClassFile.FieldType)).before args0 about1 = true := code_word (m := ⟨9, 3⟩) (meth := k9m3) (c := k9c3) (by decide +kernel) rfl rfl rfl (by decide +kernel)
set_option maxRecDepth 65536 in
theorem w_c22 : (Jvm.Cond.code ({ cls := "java/lang/StringUTF16", name := "getChar", desc := "([BI)C" } : Jvm.MethodName) jdk_52_method_5_code (2 : Nat) (Option.some Jvm.ClassFile.FieldType.char)).before args0 about1 = true := code_word (m := ⟨9, 4⟩) (meth := k9m4) (c := k9c4) (by decide +kernel) rfl rfl rfl (by decide +kernel)
set_option maxRecDepth 65536 in
theorem w_c23 : (Jvm.Cond.code ({ cls := "java/lang/StringUTF16", name := "charAt", desc := "([BI)C" } : Jvm.MethodName) jdk_52_method_83_code (2 : Nat) (Option.some Jvm.ClassFile.FieldType.char)).before args0 about1 = true := code_word (m := ⟨9, 10⟩) (meth := k9m10) (c := k9c10) (by decide +kernel) rfl rfl rfl (by decide +kernel)
set_option maxRecDepth 65536 in
theorem w_c24 : (Jvm.Cond.code ({ cls := "java/lang/StringUTF16", name := "checkIndex", desc := "(I[B)V" } : Jvm.MethodName) jdk_52_method_91_code (2 : Nat) (Option.none : Option Jvm.ClassFile.FieldType)).before args0 about1 = true := code_word (m := ⟨9, 11⟩) (meth := k9m11) (c := k9c11) (by decide +kernel) rfl rfl rfl (by decide +kernel)
set_option maxRecDepth 65536 in
theorem w_c25 : (Jvm.Cond.code ({ cls := "java/lang/StringUTF16", name := "length", desc := "([B)I" } : Jvm.MethodName) jdk_52_method_6_code (1 : Nat) (Option.some Jvm.ClassFile.FieldType.int)).before args0 about1 = true := code_word (m := ⟨9, 5⟩) (meth := k9m5) (c := k9c5) (by decide +kernel) rfl rfl rfl (by decide +kernel)
set_option maxRecDepth 65536 in
theorem w_c26 : (Jvm.Cond.code ({ cls := "java/lang/String", name := "equals", desc := "(Ljava/lang/Object;)Z" } : Jvm.MethodName) jdk_42_method_66_code (3 : Nat) (Option.some Jvm.ClassFile.FieldType.boolean)).before args0 about1 = true := code_word (m := ⟨7, 5⟩) (meth := k7m5) (c := k7c5) (by decide +kernel) rfl rfl rfl (by decide +kernel)
def codes1 : List Jvm.Cond := [Jvm.Cond.code x code maxLocals ret, Jvm.Cond.code ({ cls := "com/example/lynceus/lynceus/probe/HeaderValueKeepablePinLaw", name := "pick", desc := "(IZ)C" } : Jvm.MethodName) method_3_code (2 : Nat) (Option.some Jvm.ClassFile.FieldType.char), Jvm.Cond.code ({ cls := "java/lang/String", name := "<init>", desc := "([C)V" } : Jvm.MethodName) jdk_42_method_3_code (2 : Nat) (Option.none : Option Jvm.ClassFile.FieldType), Jvm.Cond.code ({ cls := "java/lang/String", name := "<init>", desc := "([CIILjava/lang/Void;)V" } : Jvm.MethodName) jdk_42_method_149_code (6 : Nat) (Option.none : Option Jvm.ClassFile.FieldType), Jvm.Cond.code ({ cls := "java/lang/Object", name := "<init>", desc := "()V" } : Jvm.MethodName) object_method_1_code (1 : Nat) (Option.none : Option Jvm.ClassFile.FieldType), Jvm.Cond.code ({ cls := "com/example/lynceus/lynceus/probe/HeaderValue", name := "keepable", desc := "(Ljava/lang/String;)Ljava/lang/String;" } : Jvm.MethodName) prog_50_method_2_code (3 : Nat) (Option.some (Jvm.ClassFile.FieldType.object "java/lang/String")), Jvm.Cond.code ({ cls := "java/lang/String", name := "isEmpty", desc := "()Z" } : Jvm.MethodName) jdk_42_method_55_code (1 : Nat) (Option.some Jvm.ClassFile.FieldType.boolean), Jvm.Cond.code ({ cls := "java/lang/StringUTF16", name := "compress", desc := "([CII)[B" } : Jvm.MethodName) jdk_52_method_16_code (6 : Nat) (Option.some (Jvm.ClassFile.FieldType.array Jvm.ClassFile.FieldType.byte)), Jvm.Cond.code ({ cls := "java/lang/StringUTF16", name := "compress", desc := "([CI[BII)I" } : Jvm.MethodName) jdk_52_method_21_code (7 : Nat) (Option.some Jvm.ClassFile.FieldType.int), Jvm.Cond.code ({ cls := "java/lang/StringUTF16", name := "coderFromArrayLen", desc := "([BI)B" } : Jvm.MethodName) jdk_52_method_15_code (2 : Nat) (Option.some Jvm.ClassFile.FieldType.byte), Jvm.Cond.code ({ cls := "com/example/lynceus/lynceus/probe/HeaderValueKeepablePinLaw", name := "printable", desc := "(C)Z" } : Jvm.MethodName) method_4_code (1 : Nat) (Option.some Jvm.ClassFile.FieldType.boolean), Jvm.Cond.code ({ cls := "java/lang/String", name := "length", desc := "()I" } : Jvm.MethodName) jdk_42_method_54_code (1 : Nat) (Option.some Jvm.ClassFile.FieldType.int), Jvm.Cond.code ({ cls := "java/lang/String", name := "coder", desc := "()B" } : Jvm.MethodName) jdk_42_method_152_code (1 : Nat) (Option.some Jvm.ClassFile.FieldType.byte), Jvm.Cond.code ({ cls := "java/lang/String", name := "charAt", desc := "(I)C" } : Jvm.MethodName) jdk_42_method_56_code (2 : Nat) (Option.some Jvm.ClassFile.FieldType.char), Jvm.Cond.code ({ cls := "java/lang/String", name := "isLatin1", desc := "()Z" } : Jvm.MethodName) jdk_42_method_154_code (1 : Nat) (Option.some Jvm.ClassFile.FieldType.boolean), Jvm.Cond.code ({ cls := "java/lang/StringLatin1", name := "charAt", desc := "([BI)C" } : Jvm.MethodName) jdk_43_method_2_code (2 : Nat) (Option.some Jvm.ClassFile.FieldType.char), Jvm.Cond.code ({ cls := "java/lang/String", name := "checkIndex", desc := "(II)V" } : Jvm.MethodName) jdk_42_method_155_code (2 : Nat) (Option.none : Option Jvm.ClassFile.FieldType), Jvm.Cond.code ({ cls := "jdk/internal/util/Preconditions", name := "checkIndex", desc := "(IILjava/util/function/BiFunction;)I" } : Jvm.MethodName) jdk_41_method_11_code (3 : Nat) (Option.some Jvm.ClassFile.FieldType.int), Jvm.Cond.code ({ cls := "java/lang/StringUTF16", name := "toBytes", desc := "([CII)[B" } : Jvm.MethodName) jdk_52_method_14_code (5 : Nat) (Option.some (Jvm.ClassFile.FieldType.array Jvm.ClassFile.FieldType.byte)), Jvm.Cond.code ({ cls := "java/lang/StringUTF16", name := "newBytesFor", desc := "(I)[B" } : Jvm.MethodName) jdk_52_method_2_code (1 : Nat) (Option.some (Jvm.ClassFile.FieldType.array Jvm.ClassFile.FieldType.byte)), Jvm.Cond.code ({ cls := "java/lang/StringUTF16", name := "newBytesLength", desc := "(I)I" } : Jvm.MethodName) jdk_52_method_3_code (1 : Nat) (Option.some Jvm.ClassFile.FieldType.int), Jvm.Cond.code ({ cls := "java/lang/StringUTF16", name := "putChar", desc := "([BII)V" } : Jvm.MethodName) jdk_52_method_4_code (3 : Nat) (Option.none : Option Jvm.ClassFile.FieldType), Jvm.Cond.code ({ cls := "java/lang/StringUTF16", name := "getChar", desc := "([BI)C" } : Jvm.MethodName) jdk_52_method_5_code (2 : Nat) (Option.some Jvm.ClassFile.FieldType.char), Jvm.Cond.code ({ cls := "java/lang/StringUTF16", name := "charAt", desc := "([BI)C" } : Jvm.MethodName) jdk_52_method_83_code (2 : Nat) (Option.some Jvm.ClassFile.FieldType.char), Jvm.Cond.code ({ cls := "java/lang/StringUTF16", name := "checkIndex", desc := "(I[B)V" } : Jvm.MethodName) jdk_52_method_91_code (2 : Nat) (Option.none : Option Jvm.ClassFile.FieldType), Jvm.Cond.code ({ cls := "java/lang/StringUTF16", name := "length", desc := "([B)I" } : Jvm.MethodName) jdk_52_method_6_code (1 : Nat) (Option.some Jvm.ClassFile.FieldType.int), Jvm.Cond.code ({ cls := "java/lang/String", name := "equals", desc := "(Ljava/lang/Object;)Z" } : Jvm.MethodName) jdk_42_method_66_code (3 : Nat) (Option.some Jvm.ClassFile.FieldType.boolean)]
set_option maxRecDepth 65536 in
theorem codes_eq : words1.filter isCode = codes1 := rfl
theorem w_codes : ∀ c ∈ words1.filter isCode, c.before args0 about1 = true := by
  rw [codes_eq]
  intro c hc
  simp only [codes1, List.mem_cons, List.not_mem_nil, or_false] at hc
  rcases hc with rfl | rfl | rfl | rfl | rfl | rfl | rfl | rfl | rfl | rfl | rfl | rfl | rfl | rfl | rfl | rfl | rfl | rfl | rfl | rfl | rfl | rfl | rfl | rfl | rfl | rfl | rfl
  · exact w_c0
  · exact w_c1
  · exact w_c2
  · exact w_c3
  · exact w_c4
  · exact w_c5
  · exact w_c6
  · exact w_c7
  · exact w_c8
  · exact w_c9
  · exact w_c10
  · exact w_c11
  · exact w_c12
  · exact w_c13
  · exact w_c14
  · exact w_c15
  · exact w_c16
  · exact w_c17
  · exact w_c18
  · exact w_c19
  · exact w_c20
  · exact w_c21
  · exact w_c22
  · exact w_c23
  · exact w_c24
  · exact w_c25
  · exact w_c26
set_option maxRecDepth 65536 in
theorem w_t1 : (words1.take 24).all (fun c => isCode c || c.before args0 about1) = true := by decide +kernel
set_option maxRecDepth 65536 in
theorem w_t2 : ((words1.drop 24).take 24).all (fun c => isCode c || c.before args0 about1) = true := by decide +kernel
set_option maxRecDepth 65536 in
theorem w_t3 : (((words1.drop 24).drop 24).take 24).all (fun c => isCode c || c.before args0 about1) = true := by decide +kernel
set_option maxRecDepth 65536 in
theorem w_t4 : ((((words1.drop 24).drop 24).drop 24).take 24).all (fun c => isCode c || c.before args0 about1) = true := by decide +kernel
set_option maxRecDepth 65536 in
theorem w_t5 : ((((words1.drop 24).drop 24).drop 24).drop 24).all (fun c => isCode c || c.before args0 about1) = true := by decide +kernel
theorem w_tables : (allAtoms (Jvm.Cond.code x code maxLocals ret :: tables_1)).before args0 about1 = true := by
  rw [allAtoms_all]
  show words1.all (fun c => c.before args0 about1) = true
  refine all_split ?_ w_codes
  rw [← List.take_append_drop 24 words1, List.all_append, w_t1, ← List.take_append_drop 24 (words1.drop 24), List.all_append, w_t2, ← List.take_append_drop 24 ((words1.drop 24).drop 24), List.all_append, w_t3, ← List.take_append_drop 24 (((words1.drop 24).drop 24).drop 24), List.all_append, w_t4, w_t5]
  rfl
set_option maxRecDepth 65536 in
theorem w_rest : rest_1_c.before args0 about1 = true := by decide +kernel
set_option maxRecDepth 65536 in
theorem w_case : (Jvm.Cond.and given_1 narrow_1).before args0 about1 = true := by decide +kernel
set_option maxRecDepth 65536 in
theorem w_consts : constsHeld consts_1 about1 := Jvm.Lit.constsHeldB_iff.mp (by decide +kernel)
theorem w_applies : (headSpec (Jvm.Cond.code x code maxLocals ret :: tables_1) room_1).applies x e0.platform about1 = true :=
  (Spec.applies_iff w_frames).mpr ⟨w_running, w_runnable, w_alone, w_named, w_hears, w_ripe, w_room, w_tables⟩
theorem atStart : AtStart classFile x code maxLocals ret World_1 tables_1 room_1 Calls_1 rest_1 Pre_1 launch0 p0 e0 about1 theMethod args0 below0 :=
  ⟨lists_1, trivial, launch0.admits_env _ _ _, launch0.least_env, fairChoices_fair.cas, fairChoices_fair.clock, w_frames, w_args, w_heap, w_applies, ⟨w_consts, trivial⟩, w_rest, w_case⟩
end start1
theorem witness_1 : WitnessClaimed_1 := ⟨start1.p0, start1.e0, start1.about1, start1.theMethod, start1.args0, start1.below0, start1.atStart⟩
end Jvm.Pilot.@@N@@
