import JvmDerived
import JvmDerived.Pilot.@@N@@Statement
import JvmDerived.Pilot.@@N@@Code
set_option linter.unusedVariables false
set_option linter.unusedSimpArgs false
/- laws to paste: Road.backV, Road.eqW, Road.codOf (cut by pick.py; bodies as the Statement names them) -/
namespace Jvm.Pilot.@@N@@
namespace StrChars
open Jvm Sem ClassFile Op Lib Jvm.Stand Jvm.Free.XT Jvm.Free.ALB Jvm.Free.JM Jvm.Free
open Jvm.Lib.Cold (StaticIs)
/-- a char array whose places are chars -/
def Ch (a : Addr) (A : Cell) (U : State) : Prop := Arr .char a A U ∧ Typed .char A
theorem Ch.mv {a : Addr} {A : Cell} {U U' : State} (h : Ch a A U) (hal : U.vm.Alike U'.vm) (hh : U'.heap = U.heap) : Ch a A U' := ⟨h.1.mv hal hh, h.2⟩
theorem Ch.keep {a : Addr} {A : Cell} {U U' : State} (h : Ch a A U) (hal : U.vm.Alike U'.vm) (hk : U'.heap[a]? = some A) : Ch a A U' := ⟨h.1.keep hal hk, h.2⟩
/-- what place i of a char[]'s cell holds -/
def cv (A : Cell) (i : Nat) : Int32 := match A.slots[i]? with | some (.int x) => x | _ => 0
theorem Ch.get {a : Addr} {A : Cell} {U : State} (h : Ch a A U) {i : Nat} (hi : i < A.slots.size) : A.slots[i]? = some (.int (cv A i)) := by
  have e := Array.getElem?_eq_getElem hi
  have f := h.2 i _ e
  unfold cv; rw [e]
  generalize A.slots[i] = v at f
  cases v <;> simp [fits] at f ⊢
/-- the byte that i2b leaves of a char -/
def lo8 (x : Int32) : Int32 := x.toInt8.toInt32
theorem fits_lo8 (y : Int32) : fits .byte (.int (lo8 y)) = true := by
  have h1 := y.toInt8.le_toInt
  have h2 := y.toInt8.toInt_lt
  simp only [lo8, fits, Bool.and_eq_true, decide_eq_true_eq, Int32.le_iff_toInt_le, Int8.toInt_toInt32, show (-128 : Int32).toInt = -128 from by decide, show (127 : Int32).toInt = 127 from by decide]
  omega
/-- A' is A but that each place j of lo .. hi - 1 holds f j -/
def Laid (A A' : Cell) (lo hi : Nat) (f : Nat → Value) : Prop := A'.cls = A.cls ∧ A'.vm = A.vm ∧ A'.slots.size = A.slots.size ∧ ∀ i, A'.slots[i]? = if lo ≤ i ∧ i < hi then some (f i) else A.slots[i]?
theorem Laid.zero (A : Cell) (lo : Nat) (f : Nat → Value) : Laid A A lo (lo + 0) f := ⟨rfl, rfl, rfl, fun i => by rw [if_neg (by omega)]⟩
theorem Laid.step {A Ak : Cell} {lo k : Nat} {f : Nat → Value} {v : Value} (h : Laid A Ak lo k f) (hlo : lo ≤ k) (hk : k < Ak.slots.size) (hv : v = f k) : Laid A (Ak.setSlot k v) lo (k + 1) f := by
  refine ⟨h.1, h.2.1, by simpa [Cell.setSlot] using h.2.2.1, fun i => ?_⟩
  by_cases e : k = i
  · subst e; rw [Cell.slots_setSlot_self v hk, if_pos (by omega), hv]
  · rw [Cell.slots_setSlot_ne v e, h.2.2.2 i]
    by_cases q : lo ≤ i ∧ i < k
    · rw [if_pos q, if_pos (by omega)]
    · rw [if_neg q, if_neg (by omega)]
def U16 : String := "java/lang/StringUTF16"
namespace Cmp5
def yN : MethodName := ⟨"java/lang/StringUTF16", "compress", "([CI[BII)I"⟩
abbrev yB : ByteArray := jdk_52_method_21_code
theorem d0 : decode yB 0 = .ok (.iconst 0, 1) := by decide +kernel
theorem d1 : decode yB 1 = .ok (.istore 5, 2) := by decide +kernel
theorem d3 : decode yB 3 = .ok (.iload 5, 2) := by decide +kernel
theorem d5 : decode yB 5 = .ok (.iload 4, 2) := by decide +kernel
theorem d7 : decode yB 7 = .ok (.if_icmp (.ge) 37, 3) := by decide +kernel
theorem d10 : decode yB 10 = .ok (.aload_n 0, 1) := by decide +kernel
theorem d11 : decode yB 11 = .ok (.iload_n 1, 1) := by decide +kernel
theorem d12 : decode yB 12 = .ok (.caload, 1) := by decide +kernel
theorem d13 : decode yB 13 = .ok (.istore 6, 2) := by decide +kernel
theorem d15 : decode yB 15 = .ok (.iload 6, 2) := by decide +kernel
theorem d17 : decode yB 17 = .ok (.sipush 255, 3) := by decide +kernel
theorem d20 : decode yB 20 = .ok (.if_icmp (.le) 6, 3) := by decide +kernel
theorem d26 : decode yB 26 = .ok (.aload_n 2, 1) := by decide +kernel
theorem d27 : decode yB 27 = .ok (.iload_n 3, 1) := by decide +kernel
theorem d28 : decode yB 28 = .ok (.iload 6, 2) := by decide +kernel
theorem d30 : decode yB 30 = .ok (.i2b, 1) := by decide +kernel
theorem d31 : decode yB 31 = .ok (.bastore, 1) := by decide +kernel
theorem d32 : decode yB 32 = .ok (.iinc 1 1, 3) := by decide +kernel
theorem d35 : decode yB 35 = .ok (.iinc 3 1, 3) := by decide +kernel
theorem d38 : decode yB 38 = .ok (.iinc 5 1, 3) := by decide +kernel
theorem d41 : decode yB 41 = .ok (.goto (-38), 3) := by decide +kernel
theorem d44 : decode yB 44 = .ok (.iload 4, 2) := by decide +kernel
theorem d46 : decode yB 46 = .ok (.ireturn, 1) := by decide +kernel
def site : List Cond := []
def tab : Cond := tabOf yN yB 7 (some .int) site
def P (b : Addr) (A : Cell) (d : Addr) (B : Cell) (o q len : Nat) (args : Array Value) (s : State) : Prop := args = #[.ref b, .int (Int32.ofNat o), .ref d, .int (Int32.ofNat q), .int (Int32.ofNat len)] ∧ Ch b A s ∧ Arr .byte d B s ∧ b ≠ d ∧ o + len ≤ A.slots.size ∧ q + len ≤ B.slots.size ∧ ∀ i, i < len → ¬ 255 < cv A (o + i)
def E (b : Addr) (A : Cell) (d : Addr) (B : Cell) (o q len : Nat) (r : Option Value) (s u : State) : Prop := r = some (.int (Int32.ofNat len)) ∧ ∃ B', Put d B' s u ∧ Laid B B' q (q + len) (fun j => Value.int (lo8 (cv A (o + (j - q)))))
/-- no char of the range above 255: len; the places written hold each char's low byte -/
theorem law (l : Launch) (b : Addr) (A : Cell) (d : Addr) (B : Cell) (o q len : Nat) : Law l yN 5 5 0 0 yB 7 (some .int) site (P b A d B o q len) (E b A d B o q len) (copyLocs d q len) 0 0 := by
  refine Law.of_walk (plainFor_of_name (by decide +kernel)) (by decide +kernel) (by decide +kernel) (by decide) (fun _ _ h => by rw [h.1]; rfl) (fun _ U U' hal hh h => ⟨h.1, h.2.1.mv hal hh, h.2.2.1.mv hal hh, h.2.2.2⟩) (fun r U U' V V' h1 hal h2 h => ⟨h.1, h.2.elim fun B' q => ⟨B', q.1.mv h1 h2, q.2⟩⟩) ?_
  intro p e s m args below meth c s₁ X0 hexec hbytes hml hret hlk hnm hown hh0 W hP
  obtain ⟨rfl, hA, hB, hne, l1, l2, hp⟩ := hP
  have c1 : Steps p.tables e below (s₁.setTop (entryFrame m #[.ref b, .int (Int32.ofNat o), .ref d, .int (Int32.ofNat q), .int (Int32.ofNat len)] 7)) (s₁.setTop (mkF m 0 #[.val (.ref b), .val (.int (Int32.ofNat o)), .val (.ref d), .val (.int (Int32.ofNat q)), .val (.int (Int32.ofNat len)), .unset, .unset] [])) := entry rfl
  have hA0 := hA.1.mv X0.warmed.alike hh0
  have hB0 := hB.mv X0.warmed.alike hh0
  have a31 := hA.1.2.2.2
  have c2 : Steps p.tables e below (s₁.setTop (entryFrame m #[.ref b, .int (Int32.ofNat o), .ref d, .int (Int32.ofNat q), .int (Int32.ofNat len)] 7)) (s₁.setTop (mkF m 3 #[.val (.ref b), .val (.int (Int32.ofNat o)), .val (.ref d), .val (.int (Int32.ofNat q)), .val (.int (Int32.ofNat len)), .val (.int 0), .unset] [])) := c1.trans (by
    refine iconstV X0.here hexec rfl 0 (hb hbytes d0) (by decide) ?_
    refine XS.istore X0.here hexec rfl (hb hbytes d1) rfl rfl ?_
    exact Steps.refl _)
  have loop : ∀ (r i : Nat), i + r = len → ∀ (z : Slot), (z = .unset ∨ ∃ w, z = .val w ∧ w.category = 1) → ∀ (Tl : State) (Bk : Cell), Stand p l e { frames := 0, locals := 0, cells := 0, slots := 0 } s m #[.ref b, .int (Int32.ofNat o), .ref d, .int (Int32.ofNat q), .int (Int32.ofNat len)] below meth c Tl ([] ++ copyLocs d q i) 0 0 → Put d Bk s₁ Tl → Laid B Bk q (q + i) (fun j => Value.int (lo8 (cv A (o + (j - q))))) →
      Steps p.tables e below (s₁.setTop (entryFrame m #[.ref b, .int (Int32.ofNat o), .ref d, .int (Int32.ofNat q), .int (Int32.ofNat len)] 7)) (Tl.setTop (mkF m 3 #[.val (.ref b), .val (.int (Int32.ofNat (o + i))), .val (.ref d), .val (.int (Int32.ofNat (q + i))), .val (.int (Int32.ofNat len)), .val (.int (Int32.ofNat i)), z] [])) → ∃ (T' : State) (B' : Cell) (z' : Slot), Stand p l e { frames := 0, locals := 0, cells := 0, slots := 0 } s m #[.ref b, .int (Int32.ofNat o), .ref d, .int (Int32.ofNat q), .int (Int32.ofNat len)] below meth c T' ([] ++ copyLocs d q len) 0 0 ∧ Put d B' s₁ T' ∧ Laid B B' q (q + len) (fun j => Value.int (lo8 (cv A (o + (j - q))))) ∧
      Steps p.tables e below (s₁.setTop (entryFrame m #[.ref b, .int (Int32.ofNat o), .ref d, .int (Int32.ofNat q), .int (Int32.ofNat len)] 7)) (T'.setTop (mkF m 3 #[.val (.ref b), .val (.int (Int32.ofNat (o + len))), .val (.ref d), .val (.int (Int32.ofNat (q + len))), .val (.int (Int32.ofNat len)), .val (.int (Int32.ofNat len)), z'] [])) := by
    intro r
    induction r with
    | zero =>
      intro i hi z hz Tl Bk Xl pl fl cl
      have hil : i = len := by omega
      rw [hil] at Xl fl cl
      exact ⟨Tl, Bk, z, Xl, pl, fl, cl⟩
    | succ r ih =>
      intro i hi z hz Tl Bk Xl pl fl cl
      have all := X0.warmed.alike.symm.trans Xl.warmed.alike
      have hAl := hA0.keep all (pl.other hne hA0.1)
      have hBk := hB0.like all pl.1 fl.1 fl.2.1 fl.2.2.1
      have hlt : q + i < Bk.slots.size := by rw [fl.2.2.1]; omega
      have c3 : Steps p.tables e below (s₁.setTop (entryFrame m #[.ref b, .int (Int32.ofNat o), .ref d, .int (Int32.ofNat q), .int (Int32.ofNat len)] 7)) (Tl.setTop (mkF m 12 #[.val (.ref b), .val (.int (Int32.ofNat (o + i))), .val (.ref d), .val (.int (Int32.ofNat (q + i))), .val (.int (Int32.ofNat len)), .val (.int (Int32.ofNat i)), z] [.int (Int32.ofNat (o + i)), .ref b])) := cl.trans (by
        refine XS.iload Xl.here hexec rfl (hb hbytes d3) rfl ?_
        refine XS.iload Xl.here hexec rfl (hb hbytes d5) rfl ?_
        refine XS.icmpNo Xl.here hexec rfl (hb hbytes d7) rfl (ii_ge_f (lt32 (by omega) (by omega))) ?_
        refine XS.aloadN Xl.here hexec rfl (hb hbytes d10) rfl rfl ?_
        refine XS.iloadN Xl.here hexec rfl (hb hbytes d11) rfl ?_
        exact Steps.refl _)
      have c4 : Steps p.tables e below (s₁.setTop (entryFrame m #[.ref b, .int (Int32.ofNat o), .ref d, .int (Int32.ofNat q), .int (Int32.ofNat len)] 7)) (Tl.setTop (mkF m 13 #[.val (.ref b), .val (.int (Int32.ofNat (o + i))), .val (.ref d), .val (.int (Int32.ofNat (q + i))), .val (.int (Int32.ofNat len)), .val (.int (Int32.ofNat i)), z] [.int (cv A (o + i))])) := c3.trans (by
        refine Xl.aget hexec hAl rfl (hA.get (i := o + i) (by omega)) rfl rfl (hb hbytes d12) ?_
        exact Steps.refl _)
      have c5 : Steps p.tables e below (s₁.setTop (entryFrame m #[.ref b, .int (Int32.ofNat o), .ref d, .int (Int32.ofNat q), .int (Int32.ofNat len)] 7)) (Tl.setTop (mkF m 15 #[.val (.ref b), .val (.int (Int32.ofNat (o + i))), .val (.ref d), .val (.int (Int32.ofNat (q + i))), .val (.int (Int32.ofNat len)), .val (.int (Int32.ofNat i)), .val (.int (cv A (o + i)))] [])) := c4.trans (by
        refine XS.istoreS Xl.here hexec rfl (hb hbytes d13) rfl rfl hz ?_
        exact Steps.refl _)
      have c6 : Steps p.tables e below (s₁.setTop (entryFrame m #[.ref b, .int (Int32.ofNat o), .ref d, .int (Int32.ofNat q), .int (Int32.ofNat len)] 7)) (Tl.setTop (mkF m 31 #[.val (.ref b), .val (.int (Int32.ofNat (o + i))), .val (.ref d), .val (.int (Int32.ofNat (q + i))), .val (.int (Int32.ofNat len)), .val (.int (Int32.ofNat i)), .val (.int (cv A (o + i)))] [.int (lo8 (cv A (o + i))), .int (Int32.ofNat (q + i)), .ref d])) := c5.trans (by
        refine XS.iload Xl.here hexec rfl (hb hbytes d15) rfl ?_
        refine sipushV Xl.here hexec rfl 255 (hb hbytes d17) (by decide) ?_
        refine XS.icmpYes Xl.here hexec rfl (pc0 := 20) rfl (hb hbytes d20) rfl (ii_le_t (hp i (by omega))) (by decide) rfl ?_
        refine XS.aloadN Xl.here hexec rfl (hb hbytes d26) rfl rfl ?_
        refine XS.iloadN Xl.here hexec rfl (hb hbytes d27) rfl ?_
        refine XS.iload Xl.here hexec rfl (hb hbytes d28) rfl ?_
        refine i2b Xl.here hexec rfl (hb hbytes d30) rfl ?_
        exact Steps.refl _)
      obtain ⟨T7, X7, p7, st7⟩ := Xl.aput hexec hBk rfl hlt rfl (fits_lo8 (cv A (o + i))) (g := (mkF m 31 #[.val (.ref b), .val (.int (Int32.ofNat (o + i))), .val (.ref d), .val (.int (Int32.ofNat (q + i))), .val (.int (Int32.ofNat len)), .val (.int (Int32.ofNat i)), .val (.int (cv A (o + i)))] [.int (lo8 (cv A (o + i))), .int (Int32.ofNat (q + i)), .ref d])) rfl (rest := []) rfl (hb hbytes d31)
      have c8 : Steps p.tables e below (s₁.setTop (entryFrame m #[.ref b, .int (Int32.ofNat o), .ref d, .int (Int32.ofNat q), .int (Int32.ofNat len)] 7)) (T7.setTop (mkF m 32 #[.val (.ref b), .val (.int (Int32.ofNat (o + i))), .val (.ref d), .val (.int (Int32.ofNat (q + i))), .val (.int (Int32.ofNat len)), .val (.int (Int32.ofNat i)), .val (.int (cv A (o + i)))] [])) := c6.trans (st7 _ (Steps.refl _))
      have c9 : Steps p.tables e below (s₁.setTop (entryFrame m #[.ref b, .int (Int32.ofNat o), .ref d, .int (Int32.ofNat q), .int (Int32.ofNat len)] 7)) (T7.setTop (mkF m 3 #[.val (.ref b), .val (.int (Int32.ofNat (o + i) + 1)), .val (.ref d), .val (.int (Int32.ofNat (q + i) + 1)), .val (.int (Int32.ofNat len)), .val (.int (Int32.ofNat i + 1)), .val (.int (cv A (o + i)))] [])) := c8.trans (by
        refine iincV X7.here hexec rfl 1 (hb hbytes d32) (by decide) rfl rfl ?_
        refine iincV X7.here hexec rfl 1 (hb hbytes d35) (by decide) rfl rfl ?_
        refine iincV X7.here hexec rfl 1 (hb hbytes d38) (by decide) rfl rfl ?_
        refine XS.goto X7.here hexec rfl (pc0 := 41) rfl (hb hbytes d41) (by decide) rfl ?_
        exact Steps.refl _)
      have c10 : Steps p.tables e below (s₁.setTop (entryFrame m #[.ref b, .int (Int32.ofNat o), .ref d, .int (Int32.ofNat q), .int (Int32.ofNat len)] 7)) (T7.setTop (mkF m 3 #[.val (.ref b), .val (.int (Int32.ofNat (o + (i + 1)))), .val (.ref d), .val (.int (Int32.ofNat (q + (i + 1)))), .val (.int (Int32.ofNat len)), .val (.int (Int32.ofNat (i + 1))), .val (.int (cv A (o + i)))] [])) := by
        have := c9
        rw [succ32, succ32, succ32] at this
        exact this
      exact ih (i + 1) (by omega) _ (Or.inr ⟨_, rfl, rfl⟩) T7 _ (by rw [copyLocs_step, ← List.append_assoc]; exact X7) (pl.trans p7) (fl.step (by omega) hlt (by simp)) c10
  obtain ⟨T9, B9, z9, X9, p9, f9, g9⟩ := loop len 0 (by omega) .unset (Or.inl rfl) s₁ B (by simpa [copyLocs] using X0) ⟨hB0.1, fun _ _ => rfl, rfl⟩ (Laid.zero _ _ _) c2
  have c11 : Steps p.tables e below (s₁.setTop (entryFrame m #[.ref b, .int (Int32.ofNat o), .ref d, .int (Int32.ofNat q), .int (Int32.ofNat len)] 7)) (T9.setTop (mkF m 46 #[.val (.ref b), .val (.int (Int32.ofNat (o + len))), .val (.ref d), .val (.int (Int32.ofNat (q + len))), .val (.int (Int32.ofNat len)), .val (.int (Int32.ofNat len)), z9] [.int (Int32.ofNat len)])) := g9.trans (by
    refine XS.iload X9.here hexec rfl (hb hbytes d3) rfl ?_
    refine XS.iload X9.here hexec rfl (hb hbytes d5) rfl ?_
    refine XS.icmpYes X9.here hexec rfl (pc0 := 7) rfl (hb hbytes d7) rfl (ii_ge_t (nlt32 (by omega) (Nat.le_refl _))) (by decide) rfl ?_
    refine XS.iload X9.here hexec rfl (hb hbytes d44) rfl ?_
    exact Steps.refl _)
  exact ⟨T9, some (.int (Int32.ofNat len)), _, _, _, X9, by simp, rfl, rfl, (fun h => by cases h), ⟨rfl, B9, p9.from hh0, f9⟩, fun fs hl => c11.trans (X9.ireturnOut hexec hret rfl (Or.inl rfl) (hb hbytes d46) hl)⟩
end Cmp5
namespace Cmp3
def yN : MethodName := ⟨"java/lang/StringUTF16", "compress", "([CII)[B"⟩
abbrev yB : ByteArray := jdk_52_method_16_code
theorem d0 : decode yB 0 = .ok (.iload_n 2, 1) := by decide +kernel
theorem d1 : decode yB 1 = .ok (.newarray .byte, 2) := by decide +kernel
theorem d3 : decode yB 3 = .ok (.astore_n 3, 1) := by decide +kernel
theorem d4 : decode yB 4 = .ok (.aload_n 0, 1) := by decide +kernel
theorem d5 : decode yB 5 = .ok (.iload_n 1, 1) := by decide +kernel
theorem d6 : decode yB 6 = .ok (.aload_n 3, 1) := by decide +kernel
theorem d7 : decode yB 7 = .ok (.iconst 0, 1) := by decide +kernel
theorem d8 : decode yB 8 = .ok (.iload_n 2, 1) := by decide +kernel
theorem d9 : decode yB 9 = .ok (.invokestatic 115, 3) := by decide +kernel
theorem d12 : decode yB 12 = .ok (.istore 4, 2) := by decide +kernel
theorem d14 : decode yB 14 = .ok (.iload 4, 2) := by decide +kernel
theorem d16 : decode yB 16 = .ok (.iload_n 2, 1) := by decide +kernel
theorem d17 : decode yB 17 = .ok (.if_icmp (.eq) 40, 3) := by decide +kernel
theorem d57 : decode yB 57 = .ok (.aload_n 3, 1) := by decide +kernel
theorem d58 : decode yB 58 = .ok (.areturn, 1) := by decide +kernel
def site : List Cond := [.arrayClass .byte, Cmp5.tab] ++ staticW U16 115 Cmp5.yN
def tab : Cond := tabOf yN yB 6 (some (.array .byte)) site
def P (b : Addr) (A : Cell) (o len : Nat) (args : Array Value) (s : State) : Prop := args = #[.ref b, .int (Int32.ofNat o), .int (Int32.ofNat len)] ∧ Ch b A s ∧ o + len ≤ A.slots.size ∧ len ≤ 536870912 ∧ ∀ i, i < len → ¬ 255 < cv A (o + i)
def E (b : Addr) (A : Cell) (o len : Nat) (r : Option Value) (s u : State) : Prop := NewArr .byte "[B" len (fun j => .int (lo8 (cv A (o + j)))) r s u ∧ u.heap.size = s.heap.size + 1
/-- no char of the range above 255: a new byte[] of their low bytes -/
theorem law (l : Launch) (b : Addr) (A : Cell) (o len : Nat) : Law l yN 3 3 1 18 yB 6 (some (.array .byte)) site (P b A o len) (E b A o len) [] 1 len := by
  refine Law.of_walk (plainFor_of_name (by decide +kernel)) (by decide +kernel) (by decide +kernel) (by decide) (fun _ _ h => by rw [h.1]; rfl) (fun _ U U' hal hh h => ⟨h.1, h.2.1.mv hal hh, h.2.2⟩) (fun r U U' V V' h1 hal h2 h => ⟨NewArr.mv r U U' V V' h1 hal h2 h.1, by rw [h1, h2]; exact h.2⟩) ?_
  intro p e s m args below meth c s₁ X0 hexec hbytes hml hret hlk hnm hown hh0 W hP
  obtain ⟨rfl, hA, l1, l2, hp⟩ := hP
  have a31 := hA.1.2.2.2
  have c1 : Steps p.tables e below (s₁.setTop (entryFrame m #[.ref b, .int (Int32.ofNat o), .int (Int32.ofNat len)] 6)) (s₁.setTop (mkF m 0 #[.val (.ref b), .val (.int (Int32.ofNat o)), .val (.int (Int32.ofNat len)), .unset, .unset, .unset] [])) := entry rfl
  have c2 : Steps p.tables e below (s₁.setTop (entryFrame m #[.ref b, .int (Int32.ofNat o), .int (Int32.ofNat len)] 6)) (s₁.setTop (mkF m 1 #[.val (.ref b), .val (.int (Int32.ofNat o)), .val (.int (Int32.ofNat len)), .unset, .unset, .unset] [.int (Int32.ofNat len)])) := c1.trans (by
    refine XS.iloadN X0.here hexec rfl (hb hbytes d0) rfl ?_
    exact Steps.refl _)
  obtain ⟨T3, B3, X3, ba3, bs3, bv3, bh3, bf3, st3⟩ := X0.anew hexec (atype := .byte) (wk W (.arrayClass .byte)) rfl (by show len * 1 ≤ _; omega) (by omega) (g := (mkF m 1 #[.val (.ref b), .val (.int (Int32.ofNat o)), .val (.int (Int32.ofNat len)), .unset, .unset, .unset] [.int (Int32.ofNat len)])) rfl (hb hbytes d1) (rest := []) rfl (Nat.le_refl _) (by show 0 + len ≤ len; omega)
  rw [hh0] at ba3 st3
  have kp3 : XT.Kept s T3 := (XT.Kept.of_eq hh0).push bh3
  have hA3 := hA.keep X3.warmed.alike (kp3 _ _ hA.1.1)
  have hne : b ≠ s.heap.size := hA.1.ne
  have c4 : Steps p.tables e below (s₁.setTop (entryFrame m #[.ref b, .int (Int32.ofNat o), .int (Int32.ofNat len)] 6)) (T3.setTop (mkF m 3 #[.val (.ref b), .val (.int (Int32.ofNat o)), .val (.int (Int32.ofNat len)), .unset, .unset, .unset] [.ref s.heap.size])) := c2.trans (st3 _ (Steps.refl _))
  have c5 : Steps p.tables e below (s₁.setTop (entryFrame m #[.ref b, .int (Int32.ofNat o), .int (Int32.ofNat len)] 6)) (T3.setTop (mkF m 9 #[.val (.ref b), .val (.int (Int32.ofNat o)), .val (.int (Int32.ofNat len)), .val (.ref s.heap.size), .unset, .unset] [.int (Int32.ofNat len), .int 0, .ref s.heap.size, .int (Int32.ofNat o), .ref b])) := c4.trans (by
    refine XS.astoreN X3.here hexec rfl (hb hbytes d3) rfl rfl rfl ?_
    refine XS.aloadN X3.here hexec rfl (hb hbytes d4) rfl rfl ?_
    refine XS.iloadN X3.here hexec rfl (hb hbytes d5) rfl ?_
    refine XS.aloadN X3.here hexec rfl (hb hbytes d6) rfl rfl ?_
    refine iconstV X3.here hexec rfl 0 (hb hbytes d7) (by decide) ?_
    refine XS.iloadN X3.here hexec rfl (hb hbytes d8) rfl ?_
    exact Steps.refl _)
  obtain ⟨v6, T6, X6, E6, g6⟩ := X3.callS hexec (Cmp5.law l b A s.heap.size B3 o 0 len) hown (wks W (staticW U16 115 Cmp5.yN)) (wk W Cmp5.tab) (W := 0) (Nat.le_of_ble_eq_true rfl) (Nat.le_of_ble_eq_true rfl) (Nat.le_refl _) (by show 0 + len + 0 ≤ len; omega) (g := (mkF m 9 #[.val (.ref b), .val (.int (Int32.ofNat o)), .val (.int (Int32.ofNat len)), .val (.ref s.heap.size), .unset, .unset] [.int (Int32.ofNat len), .int (Int32.ofNat 0), .ref s.heap.size, .int (Int32.ofNat o), .ref b])) rfl (by rw [hml]; rfl) c5 (argsL := [.ref b, .int (Int32.ofNat o), .ref s.heap.size, .int (Int32.ofNat 0), .int (Int32.ofNat len)]) (rest := []) rfl rfl (by show 2 * 0 + 0 ≤ _; decide) (hb hbytes d9) (⟨rfl, hA3, ba3, hne, l1, by rw [bs3]; simp, hp⟩)
  obtain ⟨rfl, B6, p6, f6⟩ := E6
  have c7 : Steps p.tables e below (s₁.setTop (entryFrame m #[.ref b, .int (Int32.ofNat o), .int (Int32.ofNat len)] 6)) (T6.setTop (mkF m 12 #[.val (.ref b), .val (.int (Int32.ofNat o)), .val (.int (Int32.ofNat len)), .val (.ref s.heap.size), .unset, .unset] [.int (Int32.ofNat len)])) := g6
  have c8 : Steps p.tables e below (s₁.setTop (entryFrame m #[.ref b, .int (Int32.ofNat o), .int (Int32.ofNat len)] 6)) (T6.setTop (mkF m 58 #[.val (.ref b), .val (.int (Int32.ofNat o)), .val (.int (Int32.ofNat len)), .val (.ref s.heap.size), .val (.int (Int32.ofNat len)), .unset] [.ref s.heap.size])) := c7.trans (by
    refine XS.istore X6.here hexec rfl (hb hbytes d12) rfl rfl ?_
    refine XS.iload X6.here hexec rfl (hb hbytes d14) rfl ?_
    refine XS.iloadN X6.here hexec rfl (hb hbytes d16) rfl ?_
    refine XS.icmpYes X6.here hexec rfl (pc0 := 17) rfl (hb hbytes d17) rfl (ii_eq_t rfl) (by decide) rfl ?_
    refine XS.aloadN X6.here hexec rfl (hb hbytes d57) rfl rfl ?_
    exact Steps.refl _)
  have X8 := X6.wide (L' := []) (cells' := 1) (slots' := len) (fun x hx hlt => by
    simp only [List.nil_append, copyLocs, List.mem_map, List.mem_range] at hx
    obtain ⟨i, -, rfl⟩ := hx
    exact absurd hlt (Nat.lt_irrefl _)) (Nat.le_refl _) (by omega)
  exact ⟨T6, some (.ref s.heap.size), _, _, _, X8, rfl, rfl, rfl, (fun h => by cases h), ⟨⟨rfl, B6, ba3.like (X3.warmed.alike.symm.trans X6.warmed.alike) p6.1 f6.1 f6.2.1 f6.2.2.1, f6.2.1.trans bv3, by rw [X6.warmed.alike.findClass, f6.1]; exact bf3, by rw [f6.2.2.1, bs3]; simp, fun j hj => by rw [f6.2.2.2 j, if_pos (by omega)]; rfl, kp3.put p6 (Nat.le_refl _)⟩, by rw [p6.2.2, bh3, hh0]; simp⟩, fun fs hl => c8.trans (X8.areturnOut hexec rfl hret rfl (hb hbytes d58) hl)⟩
end Cmp3
namespace CodL
def yN : MethodName := ⟨"java/lang/StringUTF16", "coderFromArrayLen", "([BI)B"⟩
abbrev yB : ByteArray := jdk_52_method_15_code
theorem d0 : decode yB 0 = .ok (.iload_n 1, 1) := by decide +kernel
theorem d1 : decode yB 1 = .ok (.aload_n 0, 1) := by decide +kernel
theorem d2 : decode yB 2 = .ok (.arraylength, 1) := by decide +kernel
theorem d3 : decode yB 3 = .ok (.isub, 1) := by decide +kernel
theorem d4 : decode yB 4 = .ok (.bipush 31, 2) := by decide +kernel
theorem d6 : decode yB 6 = .ok (.iushr, 1) := by decide +kernel
theorem d7 : decode yB 7 = .ok (.i2b, 1) := by decide +kernel
theorem d8 : decode yB 8 = .ok (.ireturn, 1) := by decide +kernel
def site : List Cond := []
def tab : Cond := tabOf yN yB 2 (some .byte) site
def P (d : Addr) (B : Cell) (args : Array Value) (s : State) : Prop := args = #[.ref d, .int (Int32.ofNat B.slots.size)] ∧ Arr .byte d B s
def E (r : Option Value) (s u : State) : Prop := XT.PureE (some (.int 0)) r s u
/-- an array as long as the number of chars: LATIN1 -/
theorem law (l : Launch) (d : Addr) (B : Cell) : Law l yN 2 2 0 0 yB 2 (some .byte) site (P d B) E [] 0 0 := by
  refine Law.of_walk (plainFor_of_name (by decide +kernel)) (by decide +kernel) (by decide +kernel) (by decide) (fun _ _ h => by rw [h.1]; rfl) (fun _ U U' hal hh h => ⟨h.1, h.2.mv hal hh⟩) (fun r U U' V V' h1 hal h2 h => XT.PureE.mv r U U' V V' h1 hal h2 h) ?_
  intro p e s m args below meth c s₁ X0 hexec hbytes hml hret hlk hnm hown hh0 W hP
  obtain ⟨rfl, hB⟩ := hP
  have hB0 := hB.mv X0.warmed.alike hh0
  have c1 : Steps p.tables e below (s₁.setTop (entryFrame m #[.ref d, .int (Int32.ofNat B.slots.size)] 2)) (s₁.setTop (mkF m 0 #[.val (.ref d), .val (.int (Int32.ofNat B.slots.size))] [])) := entry rfl
  have c2 : Steps p.tables e below (s₁.setTop (entryFrame m #[.ref d, .int (Int32.ofNat B.slots.size)] 2)) (s₁.setTop (mkF m 2 #[.val (.ref d), .val (.int (Int32.ofNat B.slots.size))] [.ref d, .int (Int32.ofNat B.slots.size)])) := c1.trans (by
    refine XS.iloadN X0.here hexec rfl (hb hbytes d0) rfl ?_
    refine XS.aloadN X0.here hexec rfl (hb hbytes d1) rfl rfl ?_
    exact Steps.refl _)
  have c3 : Steps p.tables e below (s₁.setTop (entryFrame m #[.ref d, .int (Int32.ofNat B.slots.size)] 2)) (s₁.setTop (mkF m 8 #[.val (.ref d), .val (.int (Int32.ofNat B.slots.size))] [.int (lo8 (ushr (Int32.ofNat B.slots.size - Int32.ofNat B.slots.size) 31))])) := c2.trans (by
    refine X0.alen hexec hB0 rfl rfl (hb hbytes d2) ?_
    refine XS.isub X0.here hexec rfl (hb hbytes d3) rfl ?_
    refine bipushV X0.here hexec rfl 31 (hb hbytes d4) (by decide) ?_
    refine iushr X0.here hexec rfl (hb hbytes d6) rfl ?_
    refine i2b X0.here hexec rfl (hb hbytes d7) rfl ?_
    exact Steps.refl _)
  have e0 : lo8 (ushr (Int32.ofNat B.slots.size - Int32.ofNat B.slots.size) 31) = 0 := by rw [Int32.sub_self]; decide
  rw [e0] at c3
  exact ⟨s₁, some (.int 0), _, _, _, X0, rfl, rfl, rfl, (fun h => by cases h), ⟨rfl, hh0⟩, fun fs hl => c3.trans (X0.ireturnOut hexec hret rfl (Or.inr (Or.inr (Or.inl rfl))) (hb hbytes d8) hl)⟩
end CodL
/-- the String at a is Latin-1 over a new byte[] (the heap's one new cell): the low bytes of the len chars of A from o on; every cell but a is kept -/
def Got (a : Addr) (D : Cell) (fV fC : Field) (A : Cell) (o len : Nat) (r : Option Value) (s u : State) : Prop := r = none ∧ ∃ D' V : Cell, Blank "java/lang/String" a D' u ∧ Same D D' [fV.slot, fC.slot] ∧ D'.slots[fV.slot]? = some (.ref s.heap.size) ∧ D'.slots[fC.slot]? = some (.int 0) ∧ Arr .byte s.heap.size V u ∧ V.vm = .none ∧ u.vm.findClass "[B" = some V.cls ∧ V.slots.size = len ∧ (∀ j, j < len → V.slots[j]? = some (.int (lo8 (cv A (o + j))))) ∧ (∀ (y : Addr) (c : Cell), y ≠ a → s.heap[y]? = some c → u.heap[y]? = some c) ∧ u.heap.size = s.heap.size + 1
theorem Got.mv {a : Addr} {D A : Cell} {fV fC : Field} {o len : Nat} : ∀ r (U U' V V' : State), U'.heap = U.heap → V.vm.Alike V'.vm → V'.heap = V.heap → Got a D fV fC A o len r U V → Got a D fV fC A o len r U' V' :=
  fun r U U' V V' h1 hal h2 ⟨e0, D', X, a1, a2, a3, a4, a5, a6, a7, a8, a9, a10, a11⟩ => ⟨e0, D', X, a1.mv hal h2, a2, by rw [h1]; exact a3, a4, by rw [h1]; exact a5.mv hal h2, a6, by rw [hal.findClass]; exact a7, a8, a9, by rw [h1, h2]; exact a10, by rw [h1, h2]; exact a11⟩
namespace New4
def yN : MethodName := ⟨"java/lang/String", "<init>", "([CIILjava/lang/Void;)V"⟩
abbrev yB : ByteArray := jdk_42_method_149_code
theorem d0 : decode yB 0 = .ok (.aload_n 0, 1) := by decide +kernel
theorem d1 : decode yB 1 = .ok (.invokespecial 1, 3) := by decide +kernel
theorem d4 : decode yB 4 = .ok (.iload_n 3, 1) := by decide +kernel
theorem d5 : decode yB 5 = .ok (.ifCond (.ne) 22, 3) := by decide +kernel
theorem d27 : decode yB 27 = .ok (.getstatic 38, 3) := by decide +kernel
theorem d30 : decode yB 30 = .ok (.ifCond (.eq) 28, 3) := by decide +kernel
theorem d33 : decode yB 33 = .ok (.aload_n 1, 1) := by decide +kernel
theorem d34 : decode yB 34 = .ok (.iload_n 2, 1) := by decide +kernel
theorem d35 : decode yB 35 = .ok (.iload_n 3, 1) := by decide +kernel
theorem d36 : decode yB 36 = .ok (.invokestatic 177, 3) := by decide +kernel
theorem d39 : decode yB 39 = .ok (.astore 5, 2) := by decide +kernel
theorem d41 : decode yB 41 = .ok (.aload_n 0, 1) := by decide +kernel
theorem d42 : decode yB 42 = .ok (.aload 5, 2) := by decide +kernel
theorem d44 : decode yB 44 = .ok (.iload_n 3, 1) := by decide +kernel
theorem d45 : decode yB 45 = .ok (.invokestatic 47, 3) := by decide +kernel
theorem d48 : decode yB 48 = .ok (.putfield 15, 3) := by decide +kernel
theorem d51 : decode yB 51 = .ok (.aload_n 0, 1) := by decide +kernel
theorem d52 : decode yB 52 = .ok (.aload 5, 2) := by decide +kernel
theorem d54 : decode yB 54 = .ok (.putfield 9, 3) := by decide +kernel
theorem d57 : decode yB 57 = .ok (.return_, 1) := by decide +kernel
def site : List Cond := [.fieldLink "java/lang/String" 38 "java/lang/String" "COMPACT_STRINGS" "Z", Cmp3.tab, CodL.tab, .laysFinal "java/lang/String" "java/lang/String" "value" "[B", .fieldLink "java/lang/String" 9 "java/lang/String" "value" "[B", .laysFinal "java/lang/String" "java/lang/String" "coder" "B", .fieldLink "java/lang/String" 15 "java/lang/String" "coder" "B"] ++ objW "java/lang/String" 1 ++ staticW "java/lang/String" 177 Cmp3.yN ++ staticW "java/lang/String" 47 CodL.yN
def tab : Cond := tabOf yN yB 6 none site
def P (a : Addr) (D : Cell) (fV fC : Field) (b : Addr) (A : Cell) (z : Int32) (o len : Nat) (args : Array Value) (s : State) : Prop := args = #[.ref a, .ref b, .int (Int32.ofNat o), .int (Int32.ofNat len), .null] ∧ Blank "java/lang/String" a D s ∧ Found "java/lang/String" "value" "[B" fV s ∧ Found "java/lang/String" "coder" "B" fC s ∧ Ch b A s ∧ StaticIs s "java/lang/String" "COMPACT_STRINGS" "Z" (.int z) ∧ ¬ z = 0 ∧ 0 < len ∧ o + len ≤ A.slots.size ∧ len ≤ 536870912 ∧ ∀ i, i < len → ¬ 255 < cv A (o + i)
def E (a : Addr) (D : Cell) (fV fC : Field) (A : Cell) (o len : Nat) (r : Option Value) (s u : State) : Prop := Got a D fV fC A o len r s u
/-- len > 0, no char of the range above 255: a Latin-1 String of their low bytes -/
theorem law (l : Launch) (a : Addr) (D : Cell) (fV fC : Field) (b : Addr) (A : Cell) (z : Int32) (o len : Nat) : Law l yN 5 4 2 35 yB 6 none site (P a D fV fC b A z o len) (E a D fV fC A o len) [⟨a, fC.slot⟩, ⟨a, fV.slot⟩] 1 len := by
  refine Law.of_walk (plainFor_of_name (by decide +kernel)) (by decide +kernel) (by decide +kernel) (by decide) (fun _ _ h => by rw [h.1]; rfl) (fun _ U U' hal hh h => ⟨h.1, h.2.1.mv hal hh, h.2.2.1.al hal, h.2.2.2.1.al hal, h.2.2.2.2.1.mv hal hh, h.2.2.2.2.2.1.there hal hh, h.2.2.2.2.2.2⟩) (fun r U U' V V' h1 hal h2 h => Got.mv r U U' V V' h1 hal h2 h) ?_
  intro p e s m args below meth c s₁ X0 hexec hbytes hml hret hlk hnm hown hh0 W hP
  obtain ⟨rfl, hB, f1, f2, hA, s1, hz, l0, l1, l2, hp⟩ := hP
  have a31 := hA.1.2.2.2
  have c1 : Steps p.tables e below (s₁.setTop (entryFrame m #[.ref a, .ref b, .int (Int32.ofNat o), .int (Int32.ofNat len), .null] 6)) (s₁.setTop (mkF m 0 #[.val (.ref a), .val (.ref b), .val (.int (Int32.ofNat o)), .val (.int (Int32.ofNat len)), .val .null, .unset] [])) := entry rfl
  have c2 : Steps p.tables e below (s₁.setTop (entryFrame m #[.ref a, .ref b, .int (Int32.ofNat o), .int (Int32.ofNat len), .null] 6)) (s₁.setTop (mkF m 1 #[.val (.ref a), .val (.ref b), .val (.int (Int32.ofNat o)), .val (.int (Int32.ofNat len)), .val .null, .unset] [.ref a])) := c1.trans (by
    refine XS.aloadN X0.here hexec rfl (hb hbytes d0) rfl rfl ?_
    exact Steps.refl _)
  obtain ⟨T3, X3, q3, st3⟩ := X0.oinit hexec hown (wks W (objW "java/lang/String" 1)) (g := (mkF m 1 #[.val (.ref a), .val (.ref b), .val (.int (Int32.ofNat o)), .val (.int (Int32.ofNat len)), .val .null, .unset] [.ref a])) rfl (by rw [hml]; rfl) (rest := []) rfl (hb hbytes d1) (W := 0) (by show 2 * 0 + 0 ≤ _; decide) (Nat.le_of_ble_eq_true rfl) (Nat.le_of_ble_eq_true rfl)
  have hh3 := q3.trans hh0
  have c4 : Steps p.tables e below (s₁.setTop (entryFrame m #[.ref a, .ref b, .int (Int32.ofNat o), .int (Int32.ofNat len), .null] 6)) (T3.setTop (mkF m 27 #[.val (.ref a), .val (.ref b), .val (.int (Int32.ofNat o)), .val (.int (Int32.ofNat len)), .val .null, .unset] [])) := (c2.trans (st3 _ (Steps.refl _))).trans (by
    refine XS.iloadN X3.here hexec rfl (hb hbytes d4) rfl ?_
    refine XS.ifYes X3.here hexec rfl (pc0 := 5) rfl (hb hbytes d5) rfl (i0_ne_t (nz32 (by omega) l0)) (by decide) rfl ?_
    exact Steps.refl _)
  obtain ⟨T5, X5, q5, st5⟩ := X3.sget hexec hown (wk W (.fieldLink "java/lang/String" 38 "java/lang/String" "COMPACT_STRINGS" "Z")) s1 (fun _ _ h => by rw [hh3]; exact h) (g := (mkF m 27 #[.val (.ref a), .val (.ref b), .val (.int (Int32.ofNat o)), .val (.int (Int32.ofNat len)), .val .null, .unset] [])) rfl (hb hbytes d27)
  have hh5 := q5.trans hh3
  have c6 : Steps p.tables e below (s₁.setTop (entryFrame m #[.ref a, .ref b, .int (Int32.ofNat o), .int (Int32.ofNat len), .null] 6)) (T5.setTop (mkF m 30 #[.val (.ref a), .val (.ref b), .val (.int (Int32.ofNat o)), .val (.int (Int32.ofNat len)), .val .null, .unset] [.int z])) := c4.trans (st5 _ (Steps.refl _))
  have c7 : Steps p.tables e below (s₁.setTop (entryFrame m #[.ref a, .ref b, .int (Int32.ofNat o), .int (Int32.ofNat len), .null] 6)) (T5.setTop (mkF m 36 #[.val (.ref a), .val (.ref b), .val (.int (Int32.ofNat o)), .val (.int (Int32.ofNat len)), .val .null, .unset] [.int (Int32.ofNat len), .int (Int32.ofNat o), .ref b])) := c6.trans (by
    refine XS.ifNo X5.here hexec rfl (hb hbytes d30) rfl (i0_eq_f hz) ?_
    refine XS.aloadN X5.here hexec rfl (hb hbytes d33) rfl rfl ?_
    refine XS.iloadN X5.here hexec rfl (hb hbytes d34) rfl ?_
    refine XS.iloadN X5.here hexec rfl (hb hbytes d35) rfl ?_
    exact Steps.refl _)
  obtain ⟨v8, T8, X8, E8, g8⟩ := X5.callS hexec (Cmp3.law l b A o len) hown (wks W (staticW "java/lang/String" 177 Cmp3.yN)) (wk W Cmp3.tab) (W := 0) (Nat.le_of_ble_eq_true rfl) (Nat.le_of_ble_eq_true rfl) (Nat.le_refl _) (by show 0 + len ≤ len; omega) (g := (mkF m 36 #[.val (.ref a), .val (.ref b), .val (.int (Int32.ofNat o)), .val (.int (Int32.ofNat len)), .val .null, .unset] [.int (Int32.ofNat len), .int (Int32.ofNat o), .ref b])) rfl (by rw [hml]; rfl) c7 (argsL := [.ref b, .int (Int32.ofNat o), .int (Int32.ofNat len)]) (rest := []) rfl rfl (by show 2 * 0 + 0 ≤ _; decide) (hb hbytes d36) (⟨rfl, hA.mv X5.warmed.alike hh5, l1, l2, hp⟩)
  obtain ⟨e8, z8⟩ := E8
  obtain ⟨rfl, N, n1, n2, n3, n4, n5, n6⟩ := NewArr.mv _ T5 s _ _ hh5.symm (Vm.Alike.refl _) rfl e8
  rw [hh5] at z8
  have hB1 := hB.keep X8.warmed.alike (n6 _ _ hB.1)
  have hne : s.heap.size ≠ a := (Nat.ne_of_lt (Array.getElem?_eq_some_iff.mp hB.1).1).symm
  have c9 : Steps p.tables e below (s₁.setTop (entryFrame m #[.ref a, .ref b, .int (Int32.ofNat o), .int (Int32.ofNat len), .null] 6)) (T8.setTop (mkF m 39 #[.val (.ref a), .val (.ref b), .val (.int (Int32.ofNat o)), .val (.int (Int32.ofNat len)), .val .null, .unset] [.ref s.heap.size])) := g8
  have c10 : Steps p.tables e below (s₁.setTop (entryFrame m #[.ref a, .ref b, .int (Int32.ofNat o), .int (Int32.ofNat len), .null] 6)) (T8.setTop (mkF m 45 #[.val (.ref a), .val (.ref b), .val (.int (Int32.ofNat o)), .val (.int (Int32.ofNat len)), .val .null, .val (.ref s.heap.size)] [.int (Int32.ofNat N.slots.size), .ref s.heap.size, .ref a])) := by
    have hc : Steps p.tables e below (s₁.setTop (entryFrame m #[.ref a, .ref b, .int (Int32.ofNat o), .int (Int32.ofNat len), .null] 6)) (T8.setTop (mkF m 45 #[.val (.ref a), .val (.ref b), .val (.int (Int32.ofNat o)), .val (.int (Int32.ofNat len)), .val .null, .val (.ref s.heap.size)] [.int (Int32.ofNat len), .ref s.heap.size, .ref a])) := c9.trans (by
      refine XS.astore X8.here hexec rfl (hb hbytes d39) rfl rfl rfl ?_
      refine XS.aloadN X8.here hexec rfl (hb hbytes d41) rfl rfl ?_
      refine XS.aload X8.here hexec rfl (hb hbytes d42) rfl rfl ?_
      refine XS.iloadN X8.here hexec rfl (hb hbytes d44) rfl ?_
      exact Steps.refl _)
    rw [n4]; exact hc
  obtain ⟨v11, T11, X11, E11, g11⟩ := X8.callS hexec (CodL.law l s.heap.size N) hown (wks W (staticW "java/lang/String" 47 CodL.yN)) (wk W CodL.tab) (W := 1) (Nat.le_of_ble_eq_true rfl) (Nat.le_of_ble_eq_true rfl) (Nat.le_refl _) (by show 0 + len + 0 ≤ len; omega) (g := (mkF m 45 #[.val (.ref a), .val (.ref b), .val (.int (Int32.ofNat o)), .val (.int (Int32.ofNat len)), .val .null, .val (.ref s.heap.size)] [.int (Int32.ofNat N.slots.size), .ref s.heap.size, .ref a])) rfl (by rw [hml]; rfl) c10 (argsL := [.ref s.heap.size, .int (Int32.ofNat N.slots.size)]) (rest := [.ref a]) rfl rfl (by show 2 * 0 + (1 + 0) ≤ _; decide) (hb hbytes d45) (⟨rfl, n1⟩)
  obtain ⟨rfl, q11⟩ := E11
  have hB11 := hB1.mv (X8.warmed.alike.symm.trans X11.warmed.alike) q11
  have c12 : Steps p.tables e below (s₁.setTop (entryFrame m #[.ref a, .ref b, .int (Int32.ofNat o), .int (Int32.ofNat len), .null] 6)) (T11.setTop (mkF m 48 #[.val (.ref a), .val (.ref b), .val (.int (Int32.ofNat o)), .val (.int (Int32.ofNat len)), .val .null, .val (.ref s.heap.size)] [.int 0, .ref a])) := g11
  obtain ⟨T13, X13, p13, bl13, sl13, st13⟩ := X11.finit hexec hown (wk W (.fieldLink "java/lang/String" 15 "java/lang/String" "coder" "B")) (Or.inr ⟨_, (wk W (.laysFinal "java/lang/String" "java/lang/String" "coder" "B"))⟩) (Or.inl ⟨rfl, hnm⟩) f2 (Or.inl rfl) hB11 (t := .byte) (by decide +kernel) rfl (g := (mkF m 48 #[.val (.ref a), .val (.ref b), .val (.int (Int32.ofNat o)), .val (.int (Int32.ofNat len)), .val .null, .val (.ref s.heap.size)] [.int 0, .ref a])) rfl (rest := []) rfl (hb hbytes d48)
  have c14 : Steps p.tables e below (s₁.setTop (entryFrame m #[.ref a, .ref b, .int (Int32.ofNat o), .int (Int32.ofNat len), .null] 6)) (T13.setTop (mkF m 54 #[.val (.ref a), .val (.ref b), .val (.int (Int32.ofNat o)), .val (.int (Int32.ofNat len)), .val .null, .val (.ref s.heap.size)] [.ref s.heap.size, .ref a])) := (c12.trans (st13 _ (Steps.refl _))).trans (by
    refine XS.aloadN X13.here hexec rfl (hb hbytes d51) rfl rfl ?_
    refine XS.aload X13.here hexec rfl (hb hbytes d52) rfl rfl ?_
    exact Steps.refl _)
  obtain ⟨T15, X15, p15, bl15, sl15, st15⟩ := X13.finit hexec hown (wk W (.fieldLink "java/lang/String" 9 "java/lang/String" "value" "[B")) (Or.inr ⟨_, (wk W (.laysFinal "java/lang/String" "java/lang/String" "value" "[B"))⟩) (Or.inl ⟨rfl, hnm⟩) f1 (Or.inl rfl) bl13 (t := (.array .byte)) (by decide +kernel) rfl (g := (mkF m 54 #[.val (.ref a), .val (.ref b), .val (.int (Int32.ofNat o)), .val (.int (Int32.ofNat len)), .val .null, .val (.ref s.heap.size)] [.ref s.heap.size, .ref a])) rfl (rest := []) rfl (hb hbytes d54)
  have c16 : Steps p.tables e below (s₁.setTop (entryFrame m #[.ref a, .ref b, .int (Int32.ofNat o), .int (Int32.ofNat len), .null] 6)) (T15.setTop (mkF m 57 #[.val (.ref a), .val (.ref b), .val (.int (Int32.ofNat o)), .val (.int (Int32.ofNat len)), .val .null, .val (.ref s.heap.size)] [])) := c14.trans (st15 _ (Steps.refl _))
  have ap := apart (Or.inr ⟨_, (wk W (.laysFinal "java/lang/String" "java/lang/String" "value" "[B"))⟩) (Or.inr ⟨_, (wk W (.laysFinal "java/lang/String" "java/lang/String" "coder" "B"))⟩) f1 f2 (t₁ := .array .byte) (t₂ := .byte) (by decide +kernel) (by decide +kernel) (by decide)
  have al := X8.warmed.alike.symm.trans X15.warmed.alike
  have n7 : T11.heap[s.heap.size]? = some N := by rw [q11]; exact n1.1
  exact ⟨T15, none, _, _, _, X15, by simp, rfl, by omega, (fun _ => rfl), ⟨rfl, _, N, bl15, ((Same.refl D _).set _ (by simp)).set _ (by simp), sl15, (Cell.slots_setSlot_ne _ ap).trans sl13, n1.keep al (p15.other hne (p13.other hne n7)), n2, by rw [al.findClass]; exact n3, n4, n5, fun y c h1 h2 => p15.other h1 (p13.other h1 (by rw [q11]; exact n6 y c h2)), by rw [p15.2.2, p13.2.2, q11]; exact z8⟩, fun fs hl => c16.trans (X15.returnOut hexec hret (hb hbytes d57) hl)⟩
end New4
namespace New1
def yN : MethodName := ⟨"java/lang/String", "<init>", "([C)V"⟩
abbrev yB : ByteArray := jdk_42_method_3_code
theorem d0 : decode yB 0 = .ok (.aload_n 0, 1) := by decide +kernel
theorem d1 : decode yB 1 = .ok (.aload_n 1, 1) := by decide +kernel
theorem d2 : decode yB 2 = .ok (.iconst 0, 1) := by decide +kernel
theorem d3 : decode yB 3 = .ok (.aload_n 1, 1) := by decide +kernel
theorem d4 : decode yB 4 = .ok (.arraylength, 1) := by decide +kernel
theorem d5 : decode yB 5 = .ok (.aconst_null, 1) := by decide +kernel
theorem d6 : decode yB 6 = .ok (.invokespecial 27, 3) := by decide +kernel
theorem d9 : decode yB 9 = .ok (.return_, 1) := by decide +kernel
def site : List Cond := [New4.tab] ++ initW "java/lang/String" 27 New4.yN
def tab : Cond := tabOf yN yB 2 none site
def P (a : Addr) (D : Cell) (fV fC : Field) (b : Addr) (A : Cell) (z : Int32) (args : Array Value) (s : State) : Prop := args = #[.ref a, .ref b] ∧ Blank "java/lang/String" a D s ∧ Found "java/lang/String" "value" "[B" fV s ∧ Found "java/lang/String" "coder" "B" fC s ∧ Ch b A s ∧ StaticIs s "java/lang/String" "COMPACT_STRINGS" "Z" (.int z) ∧ ¬ z = 0 ∧ 0 < A.slots.size ∧ A.slots.size ≤ 536870912 ∧ ∀ i, i < A.slots.size → ¬ 255 < cv A i
def E (a : Addr) (D : Cell) (fV fC : Field) (A : Cell) (r : Option Value) (s u : State) : Prop := Got a D fV fC A 0 A.slots.size r s u
/-- new String(chars), not empty, no char above 255: a Latin-1 String of their low bytes -/
theorem law (l : Launch) (a : Addr) (D : Cell) (fV fC : Field) (b : Addr) (A : Cell) (z : Int32) : Law l yN 2 1 3 52 yB 2 none site (P a D fV fC b A z) (E a D fV fC A) [⟨a, fC.slot⟩, ⟨a, fV.slot⟩] 1 A.slots.size := by
  refine Law.of_walk (plainFor_of_name (by decide +kernel)) (by decide +kernel) (by decide +kernel) (by decide) (fun _ _ h => by rw [h.1]; rfl) (fun _ U U' hal hh h => ⟨h.1, h.2.1.mv hal hh, h.2.2.1.al hal, h.2.2.2.1.al hal, h.2.2.2.2.1.mv hal hh, h.2.2.2.2.2.1.there hal hh, h.2.2.2.2.2.2⟩) (fun r U U' V V' h1 hal h2 h => Got.mv r U U' V V' h1 hal h2 h) ?_
  intro p e s m args below meth c s₁ X0 hexec hbytes hml hret hlk hnm hown hh0 W hP
  obtain ⟨rfl, hB, f1, f2, hA, s1, hz, l0, l2, hp⟩ := hP
  have c1 : Steps p.tables e below (s₁.setTop (entryFrame m #[.ref a, .ref b] 2)) (s₁.setTop (mkF m 0 #[.val (.ref a), .val (.ref b)] [])) := entry rfl
  have c2 : Steps p.tables e below (s₁.setTop (entryFrame m #[.ref a, .ref b] 2)) (s₁.setTop (mkF m 6 #[.val (.ref a), .val (.ref b)] [.null, .int (Int32.ofNat A.slots.size), .int 0, .ref b, .ref a])) := c1.trans (by
    refine XS.aloadN X0.here hexec rfl (hb hbytes d0) rfl rfl ?_
    refine XS.aloadN X0.here hexec rfl (hb hbytes d1) rfl rfl ?_
    refine iconstV X0.here hexec rfl 0 (hb hbytes d2) (by decide) ?_
    refine XS.aloadN X0.here hexec rfl (hb hbytes d3) rfl rfl ?_
    refine X0.alen hexec (hA.1.mv X0.warmed.alike hh0) rfl rfl (hb hbytes d4) ?_
    refine XS.aconstNull X0.here hexec rfl (hb hbytes d5) ?_
    exact Steps.refl _)
  obtain ⟨v3, T3, X3, E3, g3⟩ := X0.callN hexec (New4.law l a D fV fC b A z 0 A.slots.size) rfl hown (wks W (initW "java/lang/String" 27 New4.yN)) (W New4.tab (by simp only [site, List.mem_cons, List.mem_append, true_or, or_true])) (W := 0) (Nat.le_of_ble_eq_true rfl) (Nat.le_of_ble_eq_true rfl) (Nat.le_refl _) (by show 0 + A.slots.size ≤ A.slots.size; omega) (g := (mkF m 6 #[.val (.ref a), .val (.ref b)] [.null, .int (Int32.ofNat A.slots.size), .int (Int32.ofNat 0), .ref b, .ref a])) rfl (by rw [hml]; rfl) c2 (argsL := [.ref b, .int (Int32.ofNat 0), .int (Int32.ofNat A.slots.size), .null]) (rest := []) rfl rfl (by show 2 * 0 + 0 ≤ _; decide) (hb hbytes d6) (⟨rfl, hB.mv X0.warmed.alike hh0, f1.al X0.warmed.alike, f2.al X0.warmed.alike, hA.mv X0.warmed.alike hh0, s1.there X0.warmed.alike hh0, hz, l0, by omega, l2, fun i hi => by rw [Nat.zero_add]; exact hp i hi⟩)
  have e0 := Got.mv _ s₁ s _ _ hh0.symm (Vm.Alike.refl _) rfl E3
  obtain rfl := e0.1
  have c4 : Steps p.tables e below (s₁.setTop (entryFrame m #[.ref a, .ref b] 2)) (T3.setTop (mkF m 9 #[.val (.ref a), .val (.ref b)] [])) := g3
  exact ⟨T3, none, _, _, _, X3, by simp, rfl, by omega, (fun _ => rfl), e0, fun fs hl => c4.trans (X3.returnOut hexec hret (hb hbytes d9) hl)⟩
theorem pays {l : Launch} {R : Room} {p : Program} {e : Env} {below : List Frame} {s : State} {sargs : Array Value} {len W : Nat} (a : Addr) (D : Cell) (fV fC : Field) (b : Addr) (A : Cell) (z : Int32) (htab : tab.before sargs s = true) (hfr : 4 ≤ R.frames) (hlo : W + 65 ≤ R.locals) :
    Back l R p e below s sargs yN len W (fun A₁ a₁ => A₁.cells + 1 ≤ R.cells ∧ A₁.slots + A.slots.size ≤ R.slots ∧ P a D fV fC b A z a₁ A₁.U) (fun A₁ _ v₁ B₁ => E a D fV fC A v₁ A₁.U B₁.U ∧ B₁.locs = A₁.locs ++ [⟨a, fC.slot⟩, ⟨a, fV.slot⟩] ∧ B₁.cells = A₁.cells + 1 ∧ B₁.slots = A₁.slots + A.slots.size) :=
  (law l a D fV fC b A z).pays htab hfr (by omega)
end New1
/-- the byte, read back as charAt reads it, is the char -/
theorem lo8_mask {x : Int32} (h0 : ¬ x < 0) (h1 : ¬ 255 < x) : lo8 x &&& 255 = x := by
  have t : ∀ k : Fin 256, lo8 (Int32.ofNat k.val) &&& 255 = Int32.ofNat k.val := by decide +kernel
  rw [Int32.lt_iff_toInt_lt] at h0 h1
  have e0 : (0 : Int32).toInt = 0 := rfl
  have e1 : (255 : Int32).toInt = 255 := rfl
  obtain ⟨k, hk⟩ : ∃ k : Nat, x.toInt = k := ⟨x.toInt.toNat, by omega⟩
  have hx : x = Int32.ofNat k := Int32.toInt_inj.mp (by rw [hk, Int32.toInt_ofNat_small (by omega)])
  rw [hx]
  exact t ⟨k, by omega⟩
end StrChars
namespace StrChars.Road
open Jvm Sem ClassFile Op Lib Jvm.Stand Jvm.Free Jvm.Free.XT
open Jvm.Lib.Cold (StaticIs)
abbrev ST : String := "java/lang/String"
/-- every table word that New1's law asks, flat -/
abbrev words : List Jvm.Cond := [.code New1.yN New1.yB 2 none, .initialized ST, .methodLink ST 27 New4.yN, .instanceMethod New4.yN,
  .code New4.yN New4.yB 6 none, .fieldLink ST 38 ST "COMPACT_STRINGS" "Z", .laysFinal ST ST "value" "[B", .fieldLink ST 9 ST "value" "[B", .laysFinal ST ST "coder" "B", .fieldLink ST 15 ST "coder" "B",
  .methodLink ST 1 Lib.objectInit, .instanceMethod Lib.objectInit, .code Lib.objectInit ⟨#[0xb1]⟩ 1 none, .methodLink ST 177 Cmp3.yN, .static Cmp3.yN, .methodLink ST 47 CodL.yN, .static CodL.yN,
  .code Cmp3.yN Cmp3.yB 6 (some (.array .byte)), .initialized U16, .arrayClass .byte, .methodLink U16 115 Cmp5.yN, .static Cmp5.yN, .code Cmp5.yN Cmp5.yB 7 (some .int), .code CodL.yN CodL.yB 2 (some .byte)]
theorem tab_of {a : Array Value} {s : State} (h : ∀ w ∈ words, w.before a s = true) : New1.tab.before a s = true := by
  have h5 : Cmp5.tab.before a s = true := unparts (wk h (.code Cmp5.yN Cmp5.yB 7 (some .int))) (wks h (.initialized Cmp5.yN.cls :: Cmp5.site))
  have hc : CodL.tab.before a s = true := unparts (wk h (.code CodL.yN CodL.yB 2 (some .byte))) (wks h (.initialized CodL.yN.cls :: CodL.site))
  have q5 : ∀ w ∈ Cmp5.tab :: words, w.before a s = true := fun w hw => (List.mem_cons.mp hw).elim (fun e => e ▸ h5) (h w)
  have h3 : Cmp3.tab.before a s = true := unparts (wk q5 (.code Cmp3.yN Cmp3.yB 6 (some (.array .byte)))) (wks q5 (.initialized Cmp3.yN.cls :: Cmp3.site))
  have q3 : ∀ w ∈ Cmp3.tab :: CodL.tab :: words, w.before a s = true := fun w hw => (List.mem_cons.mp hw).elim (fun e => e ▸ h3) fun hw => (List.mem_cons.mp hw).elim (fun e => e ▸ hc) (h w)
  have h4 : New4.tab.before a s = true := unparts (wk q3 (.code New4.yN New4.yB 6 none)) (wks q3 (.initialized New4.yN.cls :: New4.site))
  have q4 : ∀ w ∈ New4.tab :: words, w.before a s = true := fun w hw => (List.mem_cons.mp hw).elim (fun e => e ▸ h4) (h w)
  exact unparts (wk q4 (.code New1.yN New1.yB 2 none)) (wks q4 (.initialized New1.yN.cls :: New1.site))
/-- the words ride from the start Z to the walk's own state -/
theorem moved {Z s : State} {a0 args : Array Value} (hZ : Z.Warmed39 s.vm) (hw : ∀ d ∈ words, d.before a0 Z = true) : ∀ d ∈ words, d.before args s = true := fun d hd => by
  have q := hw d hd
  have t : ∀ d ∈ words, d = .arrayClass .byte ∨ (d.onTables && d.keepsFace) = true := by decide +kernel
  rcases t d hd with rfl | t
  · exact RoadKit.mvA hZ q
  · exact RoadKit.mv hZ q t
/-- WHAT COMES BACK, over the tables of the start Z: h the heap at the call, h' behind it -/
def Q (Z : State) (x : Addr) (A : Cell) (h : Heap) (v : Option Value) (h' : Heap) (L : List Loc) : Prop := v = none ∧ (∀ y ∈ L, y.base = x) ∧ RoadKit.Keep h h' [x] ∧ h'.size = h.size + 1 ∧ RoadKit.Exa Z h' x ST ∧ RoadKit.Fld Z h' x ST "value" "[B" (.ref h.size) ∧ RoadKit.Fld Z h' x ST "coder" "B" (.int 0) ∧
  (∃ V : Cell, RoadKit.Arr Z h' h.size V .byte ∧ V.vm = .none ∧ Z.vm.findClass "[B" = some V.cls ∧ V.slots.size = A.slots.size ∧ ∀ j, j < A.slots.size → V.slots[j]? = some (.int (lo8 (cv A j)))) ∧
  ∀ (O n d : String) (w : Value), RoadKit.Fld Z h x O n d w → RoadKit.slotOf Z O n d ≠ RoadKit.slotOf Z ST "value" "[B" → RoadKit.slotOf Z O n d ≠ RoadKit.slotOf Z ST "coder" "B" → RoadKit.Fld Z h' x O n d w
/-- **new String(chars) AT A CALL, IN THE ROAD'S FORM**: for specialBack behind newO: x the fresh String, b the char[] with the cell A -/
theorem back {p : Program} {l : Launch} {e : Env} {R : Room} {s : State} {args : Array Value} {below : List Frame} {len W : Nat} {Z : State} {a0 : Array Value} {h : Heap} (hZ : Z.Warmed39 s.vm) (hw : ∀ d ∈ words, d.before a0 Z = true) {kI : Nat} (wi : (Jvm.Cond.instantiable ST kI).before a0 Z = true)
    {x b : Addr} {A : Cell} {z : Int32} {v0 c0 : Value} (E : RoadKit.Exa Z h x ST) (V : RoadKit.Fld Z h x ST "value" "[B" v0) (C : RoadKit.Fld Z h x ST "coder" "B" c0) (K : RoadKit.Arr Z h b A .char) (hty : Typed .char A) (S : RoadKit.Sta Z h ST "COMPACT_STRINGS" "Z" (.int z)) (hz : ¬ z = 0)
    (l0 : 0 < A.slots.size) (l2 : A.slots.size ≤ 536870912) (hp : ∀ i, i < A.slots.size → ¬ 255 < cv A i) (hfr : 4 ≤ R.frames) (hlo : W + 65 ≤ R.locals) :
    Back l R p e below s args New1.yN len W (fun P a => a = #[.ref x, .ref b] ∧ P.U.heap = h ∧ P.cells + 1 ≤ R.cells ∧ P.slots + A.slots.size ≤ R.slots)
      (fun P _ v B => ∃ L, Q Z x A h v B.U.heap L ∧ B.locs = P.locs ++ L ∧ B.cells = P.cells + 1 ∧ B.slots = P.slots + A.slots.size) := by
  intro m meth c P g ig mk a X hg hsize hdg hW hn hp'
  obtain ⟨rfl, rfl, r1, r2⟩ := hp'
  have al : Z.vm.Alike P.U.vm := hZ.alike.trans X.warmed.alike
  obtain ⟨D, cfV, kV, iV, fV, hD, gV, stV, knV, obV, asV, slV⟩ := id V
  obtain ⟨D', cfC, kC, iC, fC, hD', gC, stC, -, -, asC, slC⟩ := id C
  cases hD.symm.trans hD'
  obtain ⟨D2, kD, e1, e2, e3, e4, e5⟩ := id E
  cases hD.symm.trans e1
  obtain ⟨c2, k2, i1, i2, i3, -⟩ := Cond.instantiable_spec wi
  cases e2.symm.trans i1
  cases e3.symm.trans i2
  obtain ⟨kU, u1, u2⟩ := al.2.2 _ _ e3
  have hB : Blank ST x D P.U := ⟨hD, ⟨knV, fun q hq => by rw [hq] at obV; cases obV⟩, by rw [al.findClass]; exact e2, kU, u1, by rw [u2]; exact i3, by rw [u2]; exact e5 i3⟩
  have F1 : Found ST "value" "[B" fV P.U := ⟨SBG.found_only al ⟨cfV, kV, iV, gV⟩, stV⟩
  have F2 : Found ST "coder" "B" fC P.U := ⟨SBG.found_only al ⟨cfC, kC, iC, gC⟩, stC⟩
  have hA : Ch b A P.U := ⟨⟨K.1, State.isArrayOf_alike al K.2.1, K.2.2, by omega⟩, hty⟩
  have hS : StaticIs P.U ST "COMPACT_STRINGS" "Z" (.int z) := by
    obtain ⟨cfS, iS, kS, fS, st, cS, t1, t2, t3, t4, t5, t6, t7⟩ := S
    exact StaticIs.there (s := { Z with heap := P.U.heap }) ⟨cfS, iS, kS, fS, st, cS, t1, t2, t3, t4, t5, (fun q => by rw [q] at t6; cases t6), t7⟩ al rfl
  obtain ⟨v, B, X', ⟨⟨hv, E', V', q1, q2, q3, q4, q5, q6, q7, q8, q9, q10, q11⟩, hl, hc, hs⟩, st⟩ := New1.pays x D fV fC b A z (tab_of (moved hZ hw)) hfr hlo m meth c P g ig mk _ X hg hsize hdg hW hn ⟨r1, r2, rfl, hB, F1, F2, hA, hS, hz, l0, l2, hp⟩
  have al' : Z.vm.Alike B.U.vm := hZ.alike.trans X'.warmed.alike
  have hsz : E'.slots.size = D.slots.size := by
    obtain ⟨-, -, -, kB, w1, w2, w3⟩ := q1
    obtain ⟨kB', y1, y2⟩ := al'.2.2 _ _ e3
    rw [q2.2.1] at w1
    cases w1.symm.trans y1
    rw [w3, e5 i3, y2]
  refine ⟨v, B, X', ⟨_, ⟨hv, ?_, ⟨by omega, fun y cy hy hn' => q10 y cy (by simpa using hn') hy, fun y cy hy => ?_⟩, q11, ⟨E', _, q1.1, by rw [q2.2.1]; exact e2, by rw [q2.2.1]; exact e3, by rw [q2.1]; exact obV, fun _ => by rw [hsz]; exact e5 i3⟩,
    ⟨E', cfV, kV, iV, fV, q1.1, gV, stV, by rw [q2.1]; exact knV, by rw [q2.1]; exact obV, by rw [q2.2.1]; exact asV, q3⟩, ⟨E', cfC, kC, iC, fC, q1.1, gC, stC, by rw [q2.1]; exact knV, by rw [q2.1]; exact obV, by rw [q2.2.1]; exact asC, q4⟩,
    ⟨V', ⟨q5.1, State.isArrayOf_alike al'.symm q5.2.1, q5.2.2.1⟩, q6, by rw [← al'.findClass]; exact q7, q8, fun j hj => by have := q9 j hj; rwa [Nat.zero_add] at this⟩, fun O n d w F n1 n2 => ?_⟩, hl, hc, hs⟩, st⟩
  · intro y hy
    simp only [List.mem_cons, List.not_mem_nil, or_false] at hy
    rcases hy with rfl | rfl <;> rfl
  · by_cases q : y = x
    · subst q
      cases hD.symm.trans hy
      exact ⟨E', q1.1, q2.2.1, q2.1, hsz⟩
    · exact ⟨cy, q10 y cy q hy, rfl, rfl, rfl⟩
  · obtain ⟨D3, cf, k, i, f, g1, g2, g3, g4, g5, g6, g7⟩ := F
    cases hD.symm.trans g1
    simp only [RoadKit.slotOf, g2, gV, gC, Option.map_some, Option.getD_some] at n1 n2
    exact ⟨E', cf, k, i, f, q1.1, g2, g3, by rw [q2.1]; exact g4, by rw [q2.1]; exact g5, by rw [q2.2.1]; exact g6, by rw [q2.2.2 f.slot (by simp [n1, n2])]; exact g7⟩
end StrChars.Road
namespace StrChars.Road
open Jvm Sem ClassFile Op Lib Jvm.Stand Jvm.Free Jvm.Free.XT
/-- WHAT COMES BACK, the byte[] as a list of values -/
def QA (Z : State) (x : Addr) (zn : Int32) (cs : List Int32) (h : Heap) (v : Option Value) (h' : Heap) (L : List Loc) : Prop := v = none ∧ (∀ y ∈ L, y.base = x) ∧ RoadKit.Keep h h' [x] ∧ h'.size = h.size + 1 ∧ RoadKit.Exa Z h' x ST ∧ RoadKit.Fld Z h' x ST "value" "[B" (.ref h.size) ∧ RoadKit.Fld Z h' x ST "coder" "B" (.int 0) ∧
  (∃ kb, Z.vm.findClass "[B" = some kb ∧ RoadKit.Arv Z h' h.size kb .byte zn (cs.map fun c => .int (lo8 c)) (.int 0)) ∧
  ∀ (O n d : String) (w : Value), RoadKit.Fld Z h x O n d w → RoadKit.slotOf Z O n d ≠ RoadKit.slotOf Z ST "value" "[B" → RoadKit.slotOf Z O n d ≠ RoadKit.slotOf Z ST "coder" "B" → RoadKit.Fld Z h' x O n d w
/-- **new String(chars) AT A CALL, THE ARRAYS AS LISTS**: the char[] at b holds cs, not empty, no char above 255 -/
theorem backArv {p : Program} {l : Launch} {e : Env} {R : Room} {s : State} {args : Array Value} {below : List Frame} {len W : Nat} {Z : State} {a0 : Array Value} {h : Heap} (hZ : Z.Warmed39 s.vm) (hw : ∀ d ∈ words, d.before a0 Z = true) {kI : Nat} (wi : (Jvm.Cond.instantiable ST kI).before a0 Z = true)
    {x b : Addr} {k : ClassId} {zn z : Int32} {cs : List Int32} {dv v0 c0 : Value} (E : RoadKit.Exa Z h x ST) (V : RoadKit.Fld Z h x ST "value" "[B" v0) (C : RoadKit.Fld Z h x ST "coder" "B" c0) (K : RoadKit.Arv Z h b k .char zn (cs.map Value.int) dv) (S : RoadKit.Sta Z h ST "COMPACT_STRINGS" "Z" (.int z)) (hz : ¬ z = 0)
    (hlen : zn.toNatClampNeg = cs.length) (h0 : 0 < cs.length) (hbig : cs.length ≤ 536870912) (hall : ∀ c ∈ cs, ¬ 255 < c) (hfr : 4 ≤ R.frames) (hlo : W + 65 ≤ R.locals) :
    Back l R p e below s args New1.yN len W (fun P a => a = #[.ref x, .ref b] ∧ P.U.heap = h ∧ P.cells + 1 ≤ R.cells ∧ P.slots + cs.length ≤ R.slots)
      (fun P _ v B => ∃ L, QA Z x zn cs h v B.U.heap L ∧ B.locs = P.locs ++ L ∧ B.cells = P.cells + 1 ∧ B.slots = P.slots + cs.length) := by
  obtain ⟨A, K1, K2, K3, K4, K5, K6⟩ := K
  have e : A.slots.size = cs.length := K3.trans hlen
  have hat : ∀ (i : Nat) (hi : i < cs.length), A.slots[i]? = some (.int cs[i]) := fun i hi => by rw [K5 i (by omega)]; simp [List.getD_eq_getElem?_getD, hi]
  have hcv : ∀ (i : Nat) (hi : i < cs.length), cv A i = cs[i] := fun i hi => by unfold cv; rw [hat i hi]
  have hty : Typed .char A := fun i v hv => by
    have hi : i < A.slots.size := (Array.getElem?_eq_some_iff.mp hv).1
    have q := K5 i hi
    rw [hv] at q
    rw [Option.some.inj q]
    exact K6 i hi
  refine Back.mono (back hZ hw wi E V C K1 hty S hz (by omega) (by omega) (fun i hi => by rw [hcv i (by omega)]; exact hall _ (List.getElem_mem _)) hfr hlo) (fun P a hp => ⟨hp.1, hp.2.1, hp.2.2.1, by rw [e]; exact hp.2.2.2⟩) (fun P a v B hp hq => ?_)
  obtain ⟨L, ⟨q1, q2, q3, q4, q5, q6, q7, ⟨V', v1, v2, v3, v4, v5⟩, q9⟩, hl, hc, hs⟩ := hq
  refine ⟨L, ⟨q1, q2, q3, q4, q5, q6, q7, ⟨V'.cls, v3, V', v1, rfl, by rw [v4, e, hlen], K4, fun i hi => ?_, fun i hi => ?_⟩, q9⟩, hl, hc, by rw [hs, e]⟩
  · have hi' : i < cs.length := by omega
    rw [v5 i (by omega), hcv i hi']; simp [List.getD_eq_getElem?_getD, hi']
  · have hi' : i < cs.length := by omega
    simp only [List.getD_eq_getElem?_getD, List.getElem?_map, List.getElem?_eq_getElem hi', Option.map_some, Option.getD_some]
    exact fits_lo8 _
end StrChars.Road
namespace StrChars.Road
open Jvm Sem ClassFile Op Lib Jvm.Stand Jvm.Free Jvm.Free.XT
/-- WHAT COMES BACK, in the writer's own shape -/
def QV (Z : State) (x : Addr) (N : Int32) (bs : List Int32) (h : Heap) (n0 : Nat) (v : Option Value) (h' : Heap) (L : List Loc) : Prop := v = none ∧ RoadKit.Fr n0 L ∧ RoadKit.Keep h h' [x] ∧ RoadKit.Exa Z h' x ST ∧ RoadKit.Fld Z h' x ST "coder" "B" (.int 0) ∧
  ∃ (t : Addr) (kb : ClassId), n0 ≤ t ∧ h.size ≤ t ∧ ¬ t = x ∧ RoadKit.Fld Z h' x ST "value" "[B" (.ref t) ∧ RoadKit.Arv Z h' t kb .byte N (bs.map Value.int) (.int 0)
/-- **new String(chars) AT A CALL, FOR THE WRITER**: a char[] of n known ints, each 0 to 255 -/
theorem backV {p : Program} {l : Launch} {e : Env} {R : Room} {s : State} {args : Array Value} {below : List Frame} {len W : Nat} {Z : State} {a0 : Array Value} {h : Heap} (hZ : Z.Warmed39 s.vm) (hw : ∀ d ∈ words, d.before a0 Z = true) {kI : Nat} (wi : (Jvm.Cond.instantiable ST kI).before a0 Z = true)
    {x b : Addr} {kC : ClassId} {cs bs : List Int32} {d v0 c0 : Value} {z N : Int32} {n n0 : Nat} (hx0 : n0 ≤ x) (hh0 : n0 ≤ h.size) (E : RoadKit.Exa Z h x ST) (V : RoadKit.Fld Z h x ST "value" "[B" v0) (C : RoadKit.Fld Z h x ST "coder" "B" c0) (K : RoadKit.Arv Z h b kC .char N (cs.map Value.int) d) (S : RoadKit.Sta Z h ST "COMPACT_STRINGS" "Z" (.int z)) (hz : ¬ z = 0)
    (hn : cs.length = n) (hN : N = Int32.ofNat n) (l0 : 0 < n) (l2 : n ≤ 4000) (hp : ∀ c ∈ cs, ¬ c < 0 ∧ ¬ (255 : Int32) < c) (hb : bs = cs.map (fun c => c.toInt8.toInt32)) (hfr : 4 ≤ R.frames) (hlo : W + 65 ≤ R.locals) :
    Back l R p e below s args (⟨"java/lang/String", "<init>", "([C)V"⟩ : MethodName) len W (fun P a => a = #[.ref x, .ref b] ∧ P.U.heap = h ∧ P.cells + 1 ≤ R.cells ∧ P.slots + n ≤ R.slots)
      (fun P _ v B => ∃ L, QV Z x N bs h n0 v B.U.heap L ∧ B.locs = P.locs ++ L ∧ B.cells = P.cells + 1 ∧ B.slots = P.slots + n) := by
  subst hn hN hb
  refine Back.mono (backArv hZ hw wi E V C K S hz (n32 (by omega)) l0 (by omega) (fun c hc => (hp c hc).2) hfr hlo) (fun P a hp => hp) (fun P a v B hp hq => ?_)
  obtain ⟨L, ⟨q1, q2, q3, q4, q5, q6, q7, ⟨kb, v1, v2⟩, q9⟩, hl, hc, hs⟩ := hq
  exact ⟨L, ⟨q1, fun y hy => by rw [q2 y hy]; exact hx0, q3, q5, q7, h.size, kb, hh0, Nat.le_refl _, Nat.ne_of_gt E.lt, q6, by rw [List.map_map]; exact v2⟩, hl, hc, hs⟩
end StrChars.Road
namespace StrChars
open Jvm Sem ClassFile Op Lib Jvm.Stand Jvm.Free.XT Jvm.Free.ALB Jvm.Free.JM Jvm.Free
open Jvm.Lib.Cold (StaticIs)
def hi8 (x : Int32) : Int32 := lo8 (x >>> ((8 : Int32) &&& 31))
/-- what StringUTF16.getChar makes of two bytes -/
def pairCh (u v : Int32) : Int32 := (((u &&& 255) <<< ((0 : Int32) &&& 31)) ||| ((v &&& 255) <<< ((8 : Int32) &&& 31))).toUInt32.toUInt16.toUInt32.toInt32
theorem lo8_and (x : Int32) : (lo8 x &&& 255).toBitVec.toNat = x.toBitVec.toNat % 256 := by
  have h : (lo8 x).toBitVec = (x.toBitVec.signExtend 8).signExtend 32 := by rw [lo8, Int8.toBitVec_toInt32, Int32.toBitVec_toInt8]
  rw [Int32.toBitVec_and, BitVec.toNat_and, h]
  have e : ((x.toBitVec.signExtend 8).signExtend 32).toNat % 256 = x.toBitVec.toNat % 256 := by
    rw [BitVec.toNat_signExtend]
    have hlt := x.toBitVec.isLt
    simp only [BitVec.toNat_setWidth, BitVec.toNat_signExtend]
    split <;> split <;> omega
  rw [← e]
  exact Nat.and_two_pow_sub_one_eq_mod _ 8
theorem pair_says {c : Int32} (h0 : ¬ c < 0) (h1 : ¬ 65535 < c) : pairCh (lo8 c) (hi8 c) = c := by
  rw [Int32.lt_iff_toInt_lt] at h0 h1
  have e0 : (0 : Int32).toInt = 0 := rfl
  have e1 : (65535 : Int32).toInt = 65535 := rfl
  have hc : c.toInt = c.toBitVec.toNat := by
    have := c.toBitVec.isLt
    have e : c.toInt = c.toBitVec.toInt := rfl
    rw [e] at h0 h1
    rw [e]
    rw [BitVec.toInt_eq_toNat_cond] at h0 h1 ⊢
    split at h0 <;> split <;> omega
  have hn : c.toBitVec.toNat < 65536 := by omega
  have a1 := lo8_and c
  have a2 : (hi8 c &&& 255).toBitVec.toNat = c.toBitVec.toNat / 256 := by
    rw [hi8, lo8_and]
    have e : ((8 : Int32) &&& 31) = 8 := by decide
    rw [e, Int32.toBitVec_shiftRight]
    have e2 : ((8 : Int32).toBitVec.smod 32) = 8#32 := by decide
    rw [e2, BitVec.sshiftRight_eq', BitVec.toNat_sshiftRight_of_msb_false (by rw [BitVec.msb_eq_false_iff_two_mul_lt]; omega)]
    show c.toBitVec.toNat >>> 8 % 256 = _
    rw [Nat.shiftRight_eq_div_pow]
    omega
  unfold pairCh
  apply Int32.toBitVec_inj.mp
  apply BitVec.eq_of_toNat_eq
  have f0 : ((0 : Int32) &&& 31) = 0 := by decide
  have f8 : ((8 : Int32) &&& 31) = 8 := by decide
  rw [f0, f8]
  have g : (((lo8 c &&& 255) <<< (0 : Int32)) ||| ((hi8 c &&& 255) <<< (8 : Int32))).toBitVec.toNat = c.toBitVec.toNat := by
    rw [Int32.toBitVec_or, Int32.toBitVec_shiftLeft, Int32.toBitVec_shiftLeft]
    have s0 : ((0 : Int32).toBitVec.smod 32) = 0#32 := by decide
    have s8 : ((8 : Int32).toBitVec.smod 32) = 8#32 := by decide
    rw [s0, s8, BitVec.toNat_or]
    simp only [BitVec.shiftLeft_eq', BitVec.toNat_shiftLeft, a1, a2]
    show (c.toBitVec.toNat % 256) <<< 0 % 2 ^ 32 ||| (c.toBitVec.toNat / 256) <<< 8 % 2 ^ 32 = _
    rw [Nat.shiftLeft_zero, Nat.mod_eq_of_lt (show c.toBitVec.toNat % 256 < 2 ^ 32 by omega), Nat.mod_eq_of_lt (show (c.toBitVec.toNat / 256) <<< 8 < 2 ^ 32 by rw [Nat.shiftLeft_eq]; omega), Nat.or_comm, ← Nat.shiftLeft_add_eq_or_of_lt (by omega), Nat.shiftLeft_eq]
    omega
  show BitVec.toNat (((((lo8 c &&& 255) <<< (0 : Int32)) ||| ((hi8 c &&& 255) <<< (8 : Int32))).toBitVec.setWidth 16).setWidth 32) = _
  rw [BitVec.toNat_setWidth, BitVec.toNat_setWidth, g]
  omega
end StrChars
namespace StrChars
open Jvm Sem ClassFile Op Lib Jvm.Stand Jvm.Free.XT Jvm.Free.ALB Jvm.Free.JM Jvm.Free
open Jvm.Lib.Cold (StaticIs)
/-- the array's cell V codes the n chars f 0 .. f (n - 1) by the coder cd, as the JDK does: coder 1 just where some char is above 255 -/
def Cod (cd : Int32) (n : Nat) (f : Nat → Int32) (V : Cell) : Prop := (cd = 0 ∧ V.slots.size = n ∧ ∀ j, j < n → V.slots[j]? = some (.int (lo8 (f j))) ∧ ¬ 255 < f j) ∨ (cd = 1 ∧ V.slots.size = 2 * n ∧ (∀ j, j < n → V.slots[2 * j]? = some (.int (lo8 (f j))) ∧ V.slots[2 * j + 1]? = some (.int (hi8 (f j)))) ∧ ∃ j, j < n ∧ 255 < f j)
/-- **x is a String of the n chars f 0 .. f (n - 1)**, Latin-1 or UTF-16; its array at t has the cell V -/
def Txt (x t : Addr) (V : Cell) (cd : Int32) (n : Nat) (f : Nat → Int32) (U : State) : Prop := Exact "java/lang/String" x U ∧ Has x "java/lang/String" "value" "[B" (.ref t) U ∧ Has x "java/lang/String" "coder" "B" (.int cd) U ∧ XT.Arr .byte t V U ∧ Cod cd n f V ∧ ∀ j, j < n → ¬ f j < 0 ∧ ¬ 65535 < f j
theorem Txt.mv {x t : Addr} {V : Cell} {cd : Int32} {n : Nat} {f : Nat → Int32} {U U' : State} (h : Txt x t V cd n f U) (hal : U.vm.Alike U'.vm) (hh : U'.heap = U.heap) : Txt x t V cd n f U' := ⟨h.1.mv hal hh, h.2.1.mv hal hh, h.2.2.1.mv hal hh, h.2.2.2.1.mv hal hh, h.2.2.2.2⟩
end StrChars
namespace StrChars.Road
open Jvm Sem ClassFile Op Lib Jvm.Stand Jvm.Free Jvm.Free.XT
open Jvm.Lib.Cold (StaticIs)
theorem consq {a : Array Value} {s : State} {c : Jvm.Cond} {L : List Jvm.Cond} (h0 : c.before a s = true) (h : ∀ w ∈ L, w.before a s = true) : ∀ w ∈ c :: L, w.before a s = true := fun w hw => (List.mem_cons.mp hw).elim (fun e => e ▸ h0) (h w)
/-- the bytes of the chars cs, low before high -/
def wideBytes : List Int32 → List Value
  | [] => []
  | c :: cs => .int (lo8 c) :: .int (hi8 c) :: wideBytes cs
theorem wide_lo (d : Value) : ∀ (cs : List Int32) (j : Nat), j < cs.length → (wideBytes cs).getD (2 * j) d = .int (lo8 (cs.getD j 0))
  | [], j, h => absurd h (Nat.not_lt_zero j)
  | c :: cs, 0, _ => rfl
  | c :: cs, j + 1, h => by
    have q := wide_lo d cs j (by simpa using h)
    rw [show 2 * (j + 1) = 2 * j + 1 + 1 from by omega]
    simpa [wideBytes] using q
theorem wide_hi (d : Value) : ∀ (cs : List Int32) (j : Nat), j < cs.length → (wideBytes cs).getD (2 * j + 1) d = .int (hi8 (cs.getD j 0))
  | [], j, h => absurd h (Nat.not_lt_zero j)
  | c :: cs, 0, _ => rfl
  | c :: cs, j + 1, h => by
    have q := wide_hi d cs j (by simpa using h)
    rw [show 2 * (j + 1) + 1 = 2 * j + 1 + 1 + 1 from by omega]
    simpa [wideBytes] using q
theorem low_at (d : Value) (cs : List Int32) (j : Nat) (h : j < cs.length) : (cs.map fun c => Value.int (lo8 c)).getD j d = .int (lo8 (cs.getD j 0)) := by
  simp [List.getD_eq_getElem?_getD, h]
/-- an array of N2 bytes vs codes the chars cs by the coder cd -/
def CodA (cs : List Int32) (cd N2 : Int32) (vs : List Value) : Prop := (cd = 0 ∧ N2 = Int32.ofNat cs.length ∧ vs = (cs.map fun c => Value.int (lo8 c)) ∧ ∀ c ∈ cs, ¬ 255 < c) ∨ (cd = 1 ∧ N2 = Int32.ofNat (2 * cs.length) ∧ vs = wideBytes cs ∧ ∃ c ∈ cs, 255 < c)
theorem CodA.cod {cs : List Int32} {cd N2 : Int32} {vs : List Value} {V : Cell} (h : CodA cs cd N2 vs) (hn : 2 * cs.length < 2 ^ 31) (hs : V.slots.size = N2.toNatClampNeg) (hv : RoadKit.Has V vs (.int 0)) : Cod cd cs.length (fun j => cs.getD j 0) V := by
  rcases h with ⟨rfl, rfl, rfl, h⟩ | ⟨rfl, rfl, rfl, c, hc, hw⟩
  · rw [n32 (by omega)] at hs
    exact Or.inl ⟨rfl, hs, fun j hj => ⟨by rw [hv j (by omega), low_at _ _ _ hj], by
      have e : cs.getD j 0 = cs[j] := by simp [List.getD_eq_getElem?_getD, hj]
      show ¬ 255 < cs.getD j 0
      rw [e]; exact h _ (List.getElem_mem _)⟩⟩
  · rw [n32 (by omega)] at hs
    obtain ⟨j, hj, rfl⟩ := List.getElem_of_mem hc
    exact Or.inr ⟨rfl, hs, fun j hj => ⟨by rw [hv _ (by omega), wide_lo _ _ _ hj], by rw [hv _ (by omega), wide_hi _ _ _ hj]⟩, j, hj, by
      have e : cs.getD j 0 = cs[j] := by simp [List.getD_eq_getElem?_getD, hj]
      show 255 < cs.getD j 0
      rw [e]; exact hw⟩
/-- an object of exactly java/lang/String, its two fields found: as the laws ask it -/
theorem strObj {Z U : State} {a0 : Array Value} {kI : Nat} (wi : (Jvm.Cond.instantiable ST kI).before a0 Z = true) (al : Z.vm.Alike U.vm) {x : Addr} {v0 c0 : Value} (E : RoadKit.Exa Z U.heap x ST) (V : RoadKit.Fld Z U.heap x ST "value" "[B" v0) (C : RoadKit.Fld Z U.heap x ST "coder" "B" c0) :
    ∃ (D : Cell) (fV fC : Field), Blank ST x D U ∧ Found ST "value" "[B" fV U ∧ Found ST "coder" "B" fC U ∧ D.slots[fV.slot]? = some v0 ∧ D.slots[fC.slot]? = some c0 ∧ RoadKit.slotOf Z ST "value" "[B" = fV.slot ∧ RoadKit.slotOf Z ST "coder" "B" = fC.slot := by
  obtain ⟨D, cfV, kV, iV, fV, hD, gV, stV, knV, obV, asV, slV⟩ := V
  obtain ⟨D', cfC, kC, iC, fC, hD', gC, stC, -, -, asC, slC⟩ := C
  cases hD.symm.trans hD'
  obtain ⟨D2, kD, e1, e2, e3, e4, e5⟩ := E
  cases hD.symm.trans e1
  obtain ⟨c2, k2, i1, i2, i3, -⟩ := Cond.instantiable_spec wi
  cases e2.symm.trans i1
  cases e3.symm.trans i2
  obtain ⟨kU, u1, u2⟩ := al.2.2 _ _ e3
  exact ⟨D, fV, fC, ⟨hD, ⟨knV, fun q hq => by rw [hq] at obV; cases obV⟩, by rw [al.findClass]; exact e2, kU, u1, by rw [u2]; exact i3, by rw [u2]; exact e5 i3⟩, ⟨SBG.found_only al ⟨cfV, kV, iV, gV⟩, stV⟩, ⟨SBG.found_only al ⟨cfC, kC, iC, gC⟩, stC⟩, slV, slC, by simp [RoadKit.slotOf, gV], by simp [RoadKit.slotOf, gC]⟩
theorem sta_is {Z U : State} (al : Z.vm.Alike U.vm) {C n d : String} {v : Value} (S : RoadKit.Sta Z U.heap C n d v) : StaticIs U C n d v := by
  obtain ⟨cfS, iS, kS, fS, st, cS, t1, t2, t3, t4, t5, t6, t7⟩ := S
  exact StaticIs.there (s := { Z with heap := U.heap }) ⟨cfS, iS, kS, fS, st, cS, t1, t2, t3, t4, t5, (fun q => by rw [q] at t6; cases t6), t7⟩ al rfl
end StrChars.Road
namespace StrChars
open Jvm Sem ClassFile Op Lib Jvm.Stand Jvm.Free.XT Jvm.Free.ALB Jvm.Free.JM Jvm.Free
open Jvm.Lib.Cold (StaticIs)
/-- what place i of a byte[]'s cell holds -/
def yv (A : Cell) (i : Nat) : Int32 := match A.slots[i]? with | some (.int x) => x | _ => 0
theorem yv_get {a : Addr} {A : Cell} {U : State} (h : XT.Arr .byte a A U) (ht : Typed .byte A) {i : Nat} (hi : i < A.slots.size) : A.slots[i]? = some (.int (yv A i)) := by
  have e := Array.getElem?_eq_getElem hi
  have f := ht i _ e
  unfold yv; rw [e]
  generalize A.slots[i] = v at f
  cases v <;> simp [fits] at f ⊢
/-- the two arrays are equal, place for place -/
def EqC (A B : Cell) : Prop := A.slots.size = B.slots.size ∧ ∀ i, i < A.slots.size → yv A i = yv B i
/-- a boolean that says whether p -/
def Says01 (q : Prop) (r : Option Value) (s u : State) : Prop := ∃ v : Int32, r = some (.int v) ∧ u.heap = s.heap ∧ ((v = 1 ∧ q) ∨ (v = 0 ∧ ¬ q))
theorem Says01.mv {q : Prop} : ∀ r (U U' V V' : State), U'.heap = U.heap → V.vm.Alike V'.vm → V'.heap = V.heap → Says01 q r U V → Says01 q r U' V' :=
  fun r U U' V V' h1 _ h2 ⟨v, a, b, c⟩ => ⟨v, a, by rw [h1, h2]; exact b, c⟩
namespace LEq
def yN : MethodName := ⟨"java/lang/StringLatin1", "equals", "([B[B)Z"⟩
abbrev yB : ByteArray := jdk_43_method_13_code
theorem d0 : decode yB 0 = .ok (.aload_n 0, 1) := by decide +kernel
theorem d1 : decode yB 1 = .ok (.arraylength, 1) := by decide +kernel
theorem d2 : decode yB 2 = .ok (.aload_n 1, 1) := by decide +kernel
theorem d3 : decode yB 3 = .ok (.arraylength, 1) := by decide +kernel
theorem d4 : decode yB 4 = .ok (.if_icmp (.ne) 30, 3) := by decide +kernel
theorem d7 : decode yB 7 = .ok (.iconst 0, 1) := by decide +kernel
theorem d8 : decode yB 8 = .ok (.istore_n 2, 1) := by decide +kernel
theorem d9 : decode yB 9 = .ok (.iload_n 2, 1) := by decide +kernel
theorem d10 : decode yB 10 = .ok (.aload_n 0, 1) := by decide +kernel
theorem d11 : decode yB 11 = .ok (.arraylength, 1) := by decide +kernel
theorem d12 : decode yB 12 = .ok (.if_icmp (.ge) 20, 3) := by decide +kernel
theorem d15 : decode yB 15 = .ok (.aload_n 0, 1) := by decide +kernel
theorem d16 : decode yB 16 = .ok (.iload_n 2, 1) := by decide +kernel
theorem d17 : decode yB 17 = .ok (.baload, 1) := by decide +kernel
theorem d18 : decode yB 18 = .ok (.aload_n 1, 1) := by decide +kernel
theorem d19 : decode yB 19 = .ok (.iload_n 2, 1) := by decide +kernel
theorem d20 : decode yB 20 = .ok (.baload, 1) := by decide +kernel
theorem d21 : decode yB 21 = .ok (.if_icmp (.eq) 5, 3) := by decide +kernel
theorem d24 : decode yB 24 = .ok (.iconst 0, 1) := by decide +kernel
theorem d25 : decode yB 25 = .ok (.ireturn, 1) := by decide +kernel
theorem d26 : decode yB 26 = .ok (.iinc 2 1, 3) := by decide +kernel
theorem d29 : decode yB 29 = .ok (.goto (-20), 3) := by decide +kernel
theorem d32 : decode yB 32 = .ok (.iconst 1, 1) := by decide +kernel
theorem d33 : decode yB 33 = .ok (.ireturn, 1) := by decide +kernel
theorem d34 : decode yB 34 = .ok (.iconst 0, 1) := by decide +kernel
theorem d35 : decode yB 35 = .ok (.ireturn, 1) := by decide +kernel
def site : List Cond := []
def tab : Cond := tabOf yN yB 3 (some .boolean) site
def P (a : Addr) (A : Cell) (b : Addr) (B : Cell) (args : Array Value) (s : State) : Prop := args = #[.ref a, .ref b] ∧ XT.Arr .byte a A s ∧ Typed .byte A ∧ XT.Arr .byte b B s ∧ Typed .byte B
/-- whether two byte[] are equal, place for place -/
theorem law (l : Launch) (a : Addr) (A : Cell) (b : Addr) (B : Cell) : Law l yN 2 2 0 0 yB 3 (some .boolean) site (P a A b B) (Says01 (EqC A B)) [] 0 0 := by
  refine Law.of_walk (plainFor_of_name (by decide +kernel)) (by decide +kernel) (by decide +kernel) (by decide) (fun _ _ h => by rw [h.1]; rfl) (fun _ U U' hal hh h => ⟨h.1, h.2.1.mv hal hh, h.2.2.1, h.2.2.2.1.mv hal hh, h.2.2.2.2⟩) (fun r U U' V V' h1 hal h2 h => Says01.mv r U U' V V' h1 hal h2 h) ?_
  intro p e s m args below meth c s₁ X0 hexec hbytes hml hret hlk hnm hown hh0 W hP
  obtain ⟨rfl, hA, tA, hB, tB⟩ := hP
  have a31 := hA.2.2.2
  have b31 := hB.2.2.2
  have hA0 := hA.mv X0.warmed.alike hh0
  have hB0 := hB.mv X0.warmed.alike hh0
  have c1 : Steps p.tables e below (s₁.setTop (entryFrame m #[.ref a, .ref b] 3)) (s₁.setTop (mkF m 0 #[.val (.ref a), .val (.ref b), .unset] [])) := entry rfl
  have c2 : Steps p.tables e below (s₁.setTop (entryFrame m #[.ref a, .ref b] 3)) (s₁.setTop (mkF m 4 #[.val (.ref a), .val (.ref b), .unset] [.int (Int32.ofNat B.slots.size), .int (Int32.ofNat A.slots.size)])) := c1.trans (by
    refine XS.aloadN X0.here hexec rfl (hb hbytes d0) rfl rfl ?_
    refine X0.alen hexec hA0 rfl rfl (hb hbytes d1) ?_
    refine XS.aloadN X0.here hexec rfl (hb hbytes d2) rfl rfl ?_
    refine X0.alen hexec hB0 rfl rfl (hb hbytes d3) ?_
    exact Steps.refl _)
  by_cases hs : A.slots.size = B.slots.size
  · have c3 : Steps p.tables e below (s₁.setTop (entryFrame m #[.ref a, .ref b] 3)) (s₁.setTop (mkF m 9 #[.val (.ref a), .val (.ref b), .val (.int 0)] [])) := c2.trans (by
      refine XS.icmpNo X0.here hexec rfl (hb hbytes d4) rfl (ii_ne_f (by rw [hs])) ?_
      refine iconstV X0.here hexec rfl 0 (hb hbytes d7) (by decide) ?_
      refine XS.istoreN X0.here hexec rfl (hb hbytes d8) rfl rfl ?_
      exact Steps.refl _)
    have loop : ∀ (r i : Nat), i + r = A.slots.size → (∀ j, j < i → yv A j = yv B j) → Steps p.tables e below (s₁.setTop (entryFrame m #[.ref a, .ref b] 3)) (s₁.setTop (mkF m 9 #[.val (.ref a), .val (.ref b), .val (.int (Int32.ofNat i))] [])) → ∃ (pc : Nat) (Ls : Array Slot) (v : Int32), (pc = 25 ∨ pc = 33) ∧ ((v = 1 ∧ EqC A B) ∨ (v = 0 ∧ ¬ EqC A B)) ∧ Steps p.tables e below (s₁.setTop (entryFrame m #[.ref a, .ref b] 3)) (s₁.setTop (mkF m pc Ls [.int v])) := by
      intro r
      induction r with
      | zero =>
        intro i hi he cl
        exact ⟨33, _, 1, Or.inr rfl, Or.inl ⟨rfl, hs, fun j hj => he j (by omega)⟩, cl.trans (by
          refine XS.iloadN X0.here hexec rfl (hb hbytes d9) rfl ?_
          refine XS.aloadN X0.here hexec rfl (hb hbytes d10) rfl rfl ?_
          refine X0.alen hexec hA0 rfl rfl (hb hbytes d11) ?_
          refine XS.icmpYes X0.here hexec rfl (pc0 := 12) rfl (hb hbytes d12) rfl (ii_ge_t (nlt32 (by omega) (by omega))) (by decide) rfl ?_
          refine iconstV X0.here hexec rfl 1 (hb hbytes d32) (by decide) ?_
          exact Steps.refl _)⟩
      | succ r ih =>
        intro i hi he cl
        have c4 : Steps p.tables e below (s₁.setTop (entryFrame m #[.ref a, .ref b] 3)) (s₁.setTop (mkF m 21 #[.val (.ref a), .val (.ref b), .val (.int (Int32.ofNat i))] [.int (yv B i), .int (yv A i)])) := cl.trans (by
          refine XS.iloadN X0.here hexec rfl (hb hbytes d9) rfl ?_
          refine XS.aloadN X0.here hexec rfl (hb hbytes d10) rfl rfl ?_
          refine X0.alen hexec hA0 rfl rfl (hb hbytes d11) ?_
          refine XS.icmpNo X0.here hexec rfl (hb hbytes d12) rfl (ii_ge_f (lt32 (by omega) (by omega))) ?_
          refine XS.aloadN X0.here hexec rfl (hb hbytes d15) rfl rfl ?_
          refine XS.iloadN X0.here hexec rfl (hb hbytes d16) rfl ?_
          refine X0.aget hexec hA0 rfl (yv_get hA tA (i := i) (by omega)) rfl rfl (hb hbytes d17) ?_
          refine XS.aloadN X0.here hexec rfl (hb hbytes d18) rfl rfl ?_
          refine XS.iloadN X0.here hexec rfl (hb hbytes d19) rfl ?_
          refine X0.aget hexec hB0 rfl (yv_get hB tB (i := i) (by omega)) rfl rfl (hb hbytes d20) ?_
          exact Steps.refl _)
        by_cases hv : yv A i = yv B i
        · have c5 : Steps p.tables e below (s₁.setTop (entryFrame m #[.ref a, .ref b] 3)) (s₁.setTop (mkF m 9 #[.val (.ref a), .val (.ref b), .val (.int (Int32.ofNat i + 1))] [])) := c4.trans (by
            refine XS.icmpYes X0.here hexec rfl (pc0 := 21) rfl (hb hbytes d21) rfl (ii_eq_t hv) (by decide) rfl ?_
            refine iincV X0.here hexec rfl 1 (hb hbytes d26) (by decide) rfl rfl ?_
            refine XS.goto X0.here hexec rfl (pc0 := 29) rfl (hb hbytes d29) (by decide) rfl ?_
            exact Steps.refl _)
          rw [succ32] at c5
          exact ih (i + 1) (by omega) (fun j hj => by
            by_cases e : j = i
            · rw [e]; exact hv
            · exact he j (by omega)) c5
        · exact ⟨25, _, 0, Or.inl rfl, Or.inr ⟨rfl, fun q => hv (q.2 i (by omega))⟩, c4.trans (by
            refine XS.icmpNo X0.here hexec rfl (hb hbytes d21) rfl (ii_eq_f hv) ?_
            refine iconstV X0.here hexec rfl 0 (hb hbytes d24) (by decide) ?_
            exact Steps.refl _)⟩
    obtain ⟨pc, Ls, v, hpc, hv, cz⟩ := loop A.slots.size 0 (by omega) (fun j hj => absurd hj (Nat.not_lt_zero j)) c3
    have nv : narrow .boolean (.int v) = .int v := by rcases hv with ⟨rfl, -⟩ | ⟨rfl, -⟩ <;> rfl
    rcases hpc with rfl | rfl
    · exact ⟨s₁, some (.int v), _, _, _, X0, rfl, rfl, rfl, (fun h => by cases h), ⟨v, rfl, hh0, hv⟩, fun fs hl => cz.trans (X0.ireturnOut hexec hret nv (Or.inr (Or.inl rfl)) (hb hbytes d25) hl)⟩
    · exact ⟨s₁, some (.int v), _, _, _, X0, rfl, rfl, rfl, (fun h => by cases h), ⟨v, rfl, hh0, hv⟩, fun fs hl => cz.trans (X0.ireturnOut hexec hret nv (Or.inr (Or.inl rfl)) (hb hbytes d33) hl)⟩
  · have c3 : Steps p.tables e below (s₁.setTop (entryFrame m #[.ref a, .ref b] 3)) (s₁.setTop (mkF m 35 #[.val (.ref a), .val (.ref b), .unset] [.int 0])) := c2.trans (by
      refine XS.icmpYes X0.here hexec rfl (pc0 := 4) rfl (hb hbytes d4) rfl (ii_ne_t (ne32 a31 b31 hs)) (by decide) rfl ?_
      refine iconstV X0.here hexec rfl 0 (hb hbytes d34) (by decide) ?_
      exact Steps.refl _)
    exact ⟨s₁, some (.int 0), _, _, _, X0, rfl, rfl, rfl, (fun h => by cases h), ⟨0, rfl, hh0, Or.inr ⟨rfl, fun q => hs q.1⟩⟩, fun fs hl => c3.trans (X0.ireturnOut hexec hret rfl (Or.inr (Or.inl rfl)) (hb hbytes d35) hl)⟩
end LEq
theorem Cod.ty {cd : Int32} {n : Nat} {f : Nat → Int32} {V : Cell} (h : Cod cd n f V) : Typed .byte V := fun i v hv => by
  have hi : i < V.slots.size := (Array.getElem?_eq_some_iff.mp hv).1
  rcases h with ⟨-, k1, k2⟩ | ⟨-, k1, k2, -⟩
  · rw [(k2 i (by omega)).1] at hv; cases hv; exact fits_lo8 _
  · rcases Nat.mod_two_eq_zero_or_one i with e | e
    · obtain ⟨j, rfl⟩ : ∃ j, i = 2 * j := ⟨i / 2, by omega⟩
      rw [(k2 j (by omega)).1] at hv; cases hv; exact fits_lo8 _
    · obtain ⟨j, rfl⟩ : ∃ j, i = 2 * j + 1 := ⟨i / 2, by omega⟩
      rw [(k2 j (by omega)).2] at hv; cases hv; exact fits_lo8 _
/-- the same text -/
def SameT (n : Nat) (f : Nat → Int32) (k : Nat) (g : Nat → Int32) : Prop := n = k ∧ ∀ j, j < n → f j = g j
theorem lo8_inj {x y : Int32} (h0 : ¬ x < 0) (h1 : ¬ 255 < x) (k0 : ¬ y < 0) (k1 : ¬ 255 < y) (h : lo8 x = lo8 y) : x = y := by
  rw [← lo8_mask h0 h1, ← lo8_mask k0 k1, h]
/-- arrays coded by one coder are equal just where the texts are -/
theorem Cod.eqv {cd : Int32} {n k : Nat} {f g : Nat → Int32} {V V' : Cell} (h : Cod cd n f V) (h' : Cod cd k g V') (hf : ∀ j, j < n → ¬ f j < 0 ∧ ¬ 65535 < f j) (hg : ∀ j, j < k → ¬ g j < 0 ∧ ¬ 65535 < g j) : EqC V V' ↔ SameT n f k g := by
  have yvv : ∀ {W : Cell} {i : Nat} {x : Int32}, W.slots[i]? = some (.int x) → yv W i = x := fun q => by unfold yv; rw [q]
  rcases h with ⟨rfl, k1, k2⟩ | ⟨rfl, k1, k2, -⟩
  · rcases h' with ⟨-, m1, m2⟩ | ⟨e, -⟩
    · constructor
      · rintro ⟨e1, e2⟩
        refine ⟨by omega, fun j hj => ?_⟩
        have q := e2 j (by omega)
        rw [yvv (k2 j hj).1, yvv (m2 j (by omega)).1] at q
        exact lo8_inj (hf j hj).1 (k2 j hj).2 (hg j (by omega)).1 (m2 j (by omega)).2 q
      · rintro ⟨rfl, e2⟩
        refine ⟨by omega, fun j hj => ?_⟩
        rw [yvv (k2 j (by omega)).1, yvv (m2 j (by omega)).1, e2 j (by omega)]
    · exact absurd e (by decide)
  · rcases h' with ⟨e, -⟩ | ⟨-, m1, m2, -⟩
    · exact absurd e (by decide)
    · constructor
      · rintro ⟨e1, e2⟩
        refine ⟨by omega, fun j hj => ?_⟩
        have q1 := e2 (2 * j) (by omega)
        have q2 := e2 (2 * j + 1) (by omega)
        rw [yvv (k2 j hj).1, yvv (m2 j (by omega)).1] at q1
        rw [yvv (k2 j hj).2, yvv (m2 j (by omega)).2] at q2
        rw [← pair_says (hf j hj).1 (hf j hj).2, ← pair_says (hg j (by omega)).1 (hg j (by omega)).2, q1, q2]
      · rintro ⟨rfl, e2⟩
        refine ⟨by omega, fun i hi => ?_⟩
        rcases Nat.mod_two_eq_zero_or_one i with e | e
        · obtain ⟨j, rfl⟩ : ∃ j, i = 2 * j := ⟨i / 2, by omega⟩
          rw [yvv (k2 j (by omega)).1, yvv (m2 j (by omega)).1, e2 j (by omega)]
        · obtain ⟨j, rfl⟩ : ∃ j, i = 2 * j + 1 := ⟨i / 2, by omega⟩
          rw [yvv (k2 j (by omega)).2, yvv (m2 j (by omega)).2, e2 j (by omega)]
/-- two codings differ: so do the texts -/
theorem Cod.dif {cd cd' : Int32} {n k : Nat} {f g : Nat → Int32} {V V' : Cell} (h : Cod cd n f V) (h' : Cod cd' k g V') (hne : ¬ cd = cd') : ¬ SameT n f k g := by
  rintro ⟨rfl, e⟩
  rcases h with ⟨rfl, -, k2⟩ | ⟨rfl, -, -, j, hj, hw⟩
  · rcases h' with ⟨rfl, -⟩ | ⟨-, -, -, j, hj, hw⟩
    · exact hne rfl
    · exact (k2 j hj).2 (by rw [e j hj]; exact hw)
  · rcases h' with ⟨-, -, m2⟩ | ⟨rfl, -⟩
    · exact (m2 j hj).2 (by rw [← e j hj]; exact hw)
    · exact hne rfl
/-- an object of exactly C is an instance of C -/
theorem cinst {p : Program} {l : Launch} {e : Env} {R : Room} {s : State} {m : MethodId} {args : Array Value} {below : List Frame} {meth : Method} {c : Code} {T : State} {locs : List Loc} {cells slots : Nat} (X : Stand p l e R s m args below meth c T locs cells slots) (hexec : p.tables.exec = Jvm.exec) {own C : String} {index : Nat} (hown : s.vm.findClass own = some m.cls) (hlink : (Cond.classLink own index C).before args s = true) {a : Addr} (hE : Exact C a T)
    {g : JFrame} (hg : g.method = m) {rest : List Value} (hstack : g.stack = .ref a :: rest) (hdg : decode c.code g.pc = .ok (.instanceof index, 3)) :
    ∃ T', Stand p l e R s m args below meth c T' locs cells slots ∧ T'.heap = T.heap ∧ ∀ target, Steps p.tables e below (T'.setTop { g with pc := g.pc + 3, stack := .int 1 :: rest }) target → Steps p.tables e below (T.setTop g) target := by
  obtain ⟨cB, h1, D, h2, h3, h4⟩ := hE
  have h1' : s.vm.findClass C = some cB := by rw [← X.warmed.alike.findClass]; exact h1
  obtain ⟨vm', X', st⟩ := X.instanceofYes hexec hown hlink h2 h4 h1' (by rw [h3]; exact Jvm.Free.SB.assignable_self _ _) hg hstack hdg
  exact ⟨_, X', rfl, st⟩
theorem cself {p : Program} {l : Launch} {e : Env} {R : Room} {s : State} {m : MethodId} {args : Array Value} {below : List Frame} {meth : Method} {c : Code} {T : State} {locs : List Loc} {cells slots : Nat} (X : Stand p l e R s m args below meth c T locs cells slots) (hexec : p.tables.exec = Jvm.exec) {own C : String} {index : Nat} (hown : s.vm.findClass own = some m.cls) (hlink : (Cond.classLink own index C).before args s = true) {a : Addr} (hE : Exact C a T)
    {g : JFrame} (hg : g.method = m) {rest : List Value} (hstack : g.stack = .ref a :: rest) (hdg : decode c.code g.pc = .ok (.checkcast index, 3)) :
    ∃ T', Stand p l e R s m args below meth c T' locs cells slots ∧ T'.heap = T.heap ∧ ∀ target, Steps p.tables e below (T'.setTop { g with pc := g.pc + 3, stack := .ref a :: rest }) target → Steps p.tables e below (T.setTop g) target := by
  obtain ⟨cB, h1, D, h2, h3, h4⟩ := hE
  have h1' : s.vm.findClass C = some cB := by rw [← X.warmed.alike.findClass]; exact h1
  obtain ⟨vm', X', st⟩ := X.checkcastYes hexec hown hlink h2 h4 h1' (by rw [h3]; exact Jvm.Free.SB.assignable_self _ _) hg hstack hdg
  exact ⟨_, X', rfl, fun t h => st t (by rw [← hstack] at h; exact h)⟩
namespace SEq
def yN : MethodName := ⟨"java/lang/String", "equals", "(Ljava/lang/Object;)Z"⟩
abbrev yB : ByteArray := jdk_42_method_66_code
theorem d0 : decode yB 0 = .ok (.aload_n 0, 1) := by decide +kernel
theorem d1 : decode yB 1 = .ok (.aload_n 1, 1) := by decide +kernel
theorem d2 : decode yB 2 = .ok (.if_acmp (.ne) 5, 3) := by decide +kernel
theorem d5 : decode yB 5 = .ok (.iconst 1, 1) := by decide +kernel
theorem d6 : decode yB 6 = .ok (.ireturn, 1) := by decide +kernel
theorem d7 : decode yB 7 = .ok (.aload_n 1, 1) := by decide +kernel
theorem d8 : decode yB 8 = .ok (.instanceof 10, 3) := by decide +kernel
theorem d11 : decode yB 11 = .ok (.ifCond (.eq) 43, 3) := by decide +kernel
theorem d14 : decode yB 14 = .ok (.aload_n 1, 1) := by decide +kernel
theorem d15 : decode yB 15 = .ok (.checkcast 10, 3) := by decide +kernel
theorem d18 : decode yB 18 = .ok (.astore_n 2, 1) := by decide +kernel
theorem d19 : decode yB 19 = .ok (.getstatic 38, 3) := by decide +kernel
theorem d22 : decode yB 22 = .ok (.ifCond (.eq) 14, 3) := by decide +kernel
theorem d25 : decode yB 25 = .ok (.aload_n 0, 1) := by decide +kernel
theorem d26 : decode yB 26 = .ok (.getfield 15, 3) := by decide +kernel
theorem d29 : decode yB 29 = .ok (.aload_n 2, 1) := by decide +kernel
theorem d30 : decode yB 30 = .ok (.getfield 15, 3) := by decide +kernel
theorem d33 : decode yB 33 = .ok (.if_icmp (.ne) 21, 3) := by decide +kernel
theorem d36 : decode yB 36 = .ok (.aload_n 0, 1) := by decide +kernel
theorem d37 : decode yB 37 = .ok (.getfield 9, 3) := by decide +kernel
theorem d40 : decode yB 40 = .ok (.aload_n 2, 1) := by decide +kernel
theorem d41 : decode yB 41 = .ok (.getfield 9, 3) := by decide +kernel
theorem d44 : decode yB 44 = .ok (.invokestatic 541, 3) := by decide +kernel
theorem d47 : decode yB 47 = .ok (.ifCond (.eq) 7, 3) := by decide +kernel
theorem d50 : decode yB 50 = .ok (.iconst 1, 1) := by decide +kernel
theorem d51 : decode yB 51 = .ok (.goto 4, 3) := by decide +kernel
theorem d54 : decode yB 54 = .ok (.iconst 0, 1) := by decide +kernel
theorem d55 : decode yB 55 = .ok (.ireturn, 1) := by decide +kernel
def site : List Cond := [.classLink "java/lang/String" 10 "java/lang/String", .fieldLink "java/lang/String" 38 "java/lang/String" "COMPACT_STRINGS" "Z", .fieldLink "java/lang/String" 15 "java/lang/String" "coder" "B", .fieldLink "java/lang/String" 9 "java/lang/String" "value" "[B", LEq.tab] ++ staticW "java/lang/String" 541 LEq.yN
def tab : Cond := tabOf yN yB 3 (some .boolean) site
def P (x t : Addr) (V : Cell) (cd : Int32) (n : Nat) (f : Nat → Int32) (y t' : Addr) (V' : Cell) (cd' : Int32) (k : Nat) (g : Nat → Int32) (z : Int32) (args : Array Value) (s : State) : Prop := args = #[.ref x, .ref y] ∧ Txt x t V cd n f s ∧ Txt y t' V' cd' k g s ∧ StaticIs s "java/lang/String" "COMPACT_STRINGS" "Z" (.int z) ∧ ¬ z = 0
/-- equals(Object) of two Strings: whether the texts are the same -/
theorem law (l : Launch) (x t : Addr) (V : Cell) (cd : Int32) (n : Nat) (f : Nat → Int32) (y t' : Addr) (V' : Cell) (cd' : Int32) (k : Nat) (g : Nat → Int32) (z : Int32) : Law l yN 2 1 1 14 yB 3 (some .boolean) site (P x t V cd n f y t' V' cd' k g z) (Says01 (SameT n f k g)) [] 0 0 := by
  refine Law.of_walk (plainFor_of_name (by decide +kernel)) (by decide +kernel) (by decide +kernel) (by decide) (fun _ _ h => by rw [h.1]; rfl) (fun _ U U' hal hh h => ⟨h.1, h.2.1.mv hal hh, h.2.2.1.mv hal hh, h.2.2.2.1.there hal hh, h.2.2.2.2⟩) (fun r U U' V V' h1 hal h2 h => Says01.mv r U U' V V' h1 hal h2 h) ?_
  intro p e s m args below meth c s₁ X0 hexec hbytes hml hret hlk hnm hown hh0 W hP
  obtain ⟨rfl, hx, hy, s1, hz⟩ := hP
  have c1 : Steps p.tables e below (s₁.setTop (entryFrame m #[.ref x, .ref y] 3)) (s₁.setTop (mkF m 2 #[.val (.ref x), .val (.ref y), .unset] [.ref y, .ref x])) := Steps.trans (entry rfl) (by
    show Steps p.tables e below (s₁.setTop (mkF m 0 #[.val (.ref x), .val (.ref y), .unset] [])) _
    refine XS.aloadN X0.here hexec rfl (hb hbytes d0) rfl rfl ?_
    refine XS.aloadN X0.here hexec rfl (hb hbytes d1) rfl rfl ?_
    exact Steps.refl _)
  by_cases hxy : x = y
  · have c2 : Steps p.tables e below (s₁.setTop (entryFrame m #[.ref x, .ref y] 3)) (s₁.setTop (mkF m 6 #[.val (.ref x), .val (.ref y), .unset] [.int 1])) := c1.trans (by
      refine acmpNo X0.here hexec rfl (hb hbytes d2) rfl rfl rfl (by simp [acmp, hxy]) ?_
      refine iconstV X0.here hexec rfl 1 (hb hbytes d5) (by decide) ?_
      exact Steps.refl _)
    subst hxy
    have ec : cd = cd' := by
      obtain ⟨D, fd, a1, a2, a3⟩ := hx.2.2.1
      obtain ⟨D', fd', b1, b2, b3⟩ := hy.2.2.1
      cases a1.symm.trans b1
      obtain ⟨q1, q2, q3, q4⟩ := a2.1
      obtain ⟨r1, r2, r3, r4⟩ := b2.1
      cases q4.symm.trans r4
      cases a3.symm.trans b3; rfl
    have et : t = t' := by
      obtain ⟨D, fd, a1, a2, a3⟩ := hx.2.1
      obtain ⟨D', fd', b1, b2, b3⟩ := hy.2.1
      cases a1.symm.trans b1
      obtain ⟨q1, q2, q3, q4⟩ := a2.1
      obtain ⟨r1, r2, r3, r4⟩ := b2.1
      cases q4.symm.trans r4
      cases a3.symm.trans b3; rfl
    subst ec et
    have ev : V = V' := by cases hx.2.2.2.1.1.symm.trans hy.2.2.2.1.1; rfl
    subst ev
    have hs : SameT n f k g := (Cod.eqv hx.2.2.2.2.1 hy.2.2.2.2.1 hx.2.2.2.2.2 hy.2.2.2.2.2).mp ⟨rfl, fun _ _ => rfl⟩
    exact ⟨s₁, some (.int 1), _, _, _, X0, rfl, rfl, rfl, (fun h => by cases h), ⟨1, rfl, hh0, Or.inl ⟨rfl, hs⟩⟩, fun fs hl => c2.trans (X0.ireturnOut hexec hret rfl (Or.inr (Or.inl rfl)) (hb hbytes d6) hl)⟩
  · have c2 : Steps p.tables e below (s₁.setTop (entryFrame m #[.ref x, .ref y] 3)) (s₁.setTop (mkF m 8 #[.val (.ref x), .val (.ref y), .unset] [.ref y])) := c1.trans (by
      refine acmpYes X0.here hexec rfl (pc0 := 2) rfl (hb hbytes d2) rfl rfl rfl (by simp [acmp, hxy]) (by decide) rfl ?_
      refine XS.aloadN X0.here hexec rfl (hb hbytes d7) rfl rfl ?_
      exact Steps.refl _)
    obtain ⟨T3, X3, q3, st3⟩ := cinst X0 hexec hown (wk W (.classLink "java/lang/String" 10 "java/lang/String")) (hy.mv X0.warmed.alike hh0).1 (g := (mkF m 8 #[.val (.ref x), .val (.ref y), .unset] [.ref y])) rfl (rest := []) rfl (hb hbytes d8)
    have hh3 := q3.trans hh0
    have c4 : Steps p.tables e below (s₁.setTop (entryFrame m #[.ref x, .ref y] 3)) (T3.setTop (mkF m 15 #[.val (.ref x), .val (.ref y), .unset] [.ref y])) := (c2.trans (st3 _ (Steps.refl _))).trans (by
      refine XS.ifNo X3.here hexec rfl (hb hbytes d11) rfl (i0_eq_f (by decide)) ?_
      refine XS.aloadN X3.here hexec rfl (hb hbytes d14) rfl rfl ?_
      exact Steps.refl _)
    obtain ⟨T5, X5, q5, st5⟩ := cself X3 hexec hown (wk W (.classLink "java/lang/String" 10 "java/lang/String")) (hy.mv X3.warmed.alike hh3).1 (g := (mkF m 15 #[.val (.ref x), .val (.ref y), .unset] [.ref y])) rfl (rest := []) rfl (hb hbytes d15)
    have hh5 := q5.trans hh3
    have c6 : Steps p.tables e below (s₁.setTop (entryFrame m #[.ref x, .ref y] 3)) (T5.setTop (mkF m 19 #[.val (.ref x), .val (.ref y), .val (.ref y)] [])) := (c4.trans (st5 _ (Steps.refl _))).trans (by
      refine XS.astoreN X5.here hexec rfl (hb hbytes d18) rfl rfl rfl ?_
      exact Steps.refl _)
    obtain ⟨T7, X7, q7, st7⟩ := X5.sget hexec hown (wk W (.fieldLink "java/lang/String" 38 "java/lang/String" "COMPACT_STRINGS" "Z")) s1 (fun _ _ h => by rw [hh5]; exact h) (g := (mkF m 19 #[.val (.ref x), .val (.ref y), .val (.ref y)] [])) rfl (hb hbytes d19)
    have hh7 := q7.trans hh5
    have c8 : Steps p.tables e below (s₁.setTop (entryFrame m #[.ref x, .ref y] 3)) (T7.setTop (mkF m 26 #[.val (.ref x), .val (.ref y), .val (.ref y)] [.ref x])) := (c6.trans (st7 _ (Steps.refl _))).trans (by
      refine XS.ifNo X7.here hexec rfl (hb hbytes d22) rfl (i0_eq_f hz) ?_
      refine XS.aloadN X7.here hexec rfl (hb hbytes d25) rfl rfl ?_
      exact Steps.refl _)
    obtain ⟨T9, X9, q9, st9⟩ := X7.hget hexec hown (wk W (.fieldLink "java/lang/String" 15 "java/lang/String" "coder" "B")) (hx.mv X7.warmed.alike hh7).2.2.1 (g := (mkF m 26 #[.val (.ref x), .val (.ref y), .val (.ref y)] [.ref x])) rfl (rest := []) rfl (hb hbytes d26)
    have hh9 := q9.trans hh7
    have c10 : Steps p.tables e below (s₁.setTop (entryFrame m #[.ref x, .ref y] 3)) (T9.setTop (mkF m 30 #[.val (.ref x), .val (.ref y), .val (.ref y)] [.ref y, .int cd])) := (c8.trans (st9 _ (Steps.refl _))).trans (by
      refine XS.aloadN X9.here hexec rfl (hb hbytes d29) rfl rfl ?_
      exact Steps.refl _)
    obtain ⟨T11, X11, q11, st11⟩ := X9.hget hexec hown (wk W (.fieldLink "java/lang/String" 15 "java/lang/String" "coder" "B")) (hy.mv X9.warmed.alike hh9).2.2.1 (g := (mkF m 30 #[.val (.ref x), .val (.ref y), .val (.ref y)] [.ref y, .int cd])) rfl (rest := [.int cd]) rfl (hb hbytes d30)
    have hh11 := q11.trans hh9
    have c12 : Steps p.tables e below (s₁.setTop (entryFrame m #[.ref x, .ref y] 3)) (T11.setTop (mkF m 33 #[.val (.ref x), .val (.ref y), .val (.ref y)] [.int cd', .int cd])) := c10.trans (st11 _ (Steps.refl _))
    by_cases hcd : cd = cd'
    · subst hcd
      have c13 : Steps p.tables e below (s₁.setTop (entryFrame m #[.ref x, .ref y] 3)) (T11.setTop (mkF m 37 #[.val (.ref x), .val (.ref y), .val (.ref y)] [.ref x])) := c12.trans (by
        refine XS.icmpNo X11.here hexec rfl (hb hbytes d33) rfl (ii_ne_f rfl) ?_
        refine XS.aloadN X11.here hexec rfl (hb hbytes d36) rfl rfl ?_
        exact Steps.refl _)
      obtain ⟨T14, X14, q14, st14⟩ := X11.hget hexec hown (wk W (.fieldLink "java/lang/String" 9 "java/lang/String" "value" "[B")) (hx.mv X11.warmed.alike hh11).2.1 (g := (mkF m 37 #[.val (.ref x), .val (.ref y), .val (.ref y)] [.ref x])) rfl (rest := []) rfl (hb hbytes d37)
      have hh14 := q14.trans hh11
      have c15 : Steps p.tables e below (s₁.setTop (entryFrame m #[.ref x, .ref y] 3)) (T14.setTop (mkF m 41 #[.val (.ref x), .val (.ref y), .val (.ref y)] [.ref y, .ref t])) := (c13.trans (st14 _ (Steps.refl _))).trans (by
        refine XS.aloadN X14.here hexec rfl (hb hbytes d40) rfl rfl ?_
        exact Steps.refl _)
      obtain ⟨T16, X16, q16, st16⟩ := X14.hget hexec hown (wk W (.fieldLink "java/lang/String" 9 "java/lang/String" "value" "[B")) (hy.mv X14.warmed.alike hh14).2.1 (g := (mkF m 41 #[.val (.ref x), .val (.ref y), .val (.ref y)] [.ref y, .ref t])) rfl (rest := [.ref t]) rfl (hb hbytes d41)
      have hh16 := q16.trans hh14
      have c17 : Steps p.tables e below (s₁.setTop (entryFrame m #[.ref x, .ref y] 3)) (T16.setTop (mkF m 44 #[.val (.ref x), .val (.ref y), .val (.ref y)] [.ref t', .ref t])) := c15.trans (st16 _ (Steps.refl _))
      obtain ⟨v18, T18, X18, E18, g18⟩ := X16.callS hexec (LEq.law l t V t' V') hown (wks W (staticW "java/lang/String" 541 LEq.yN)) (wk W LEq.tab) (W := 0) (Nat.le_of_ble_eq_true rfl) (Nat.le_of_ble_eq_true rfl) (Nat.le_refl _) (Nat.le_refl _) (g := (mkF m 44 #[.val (.ref x), .val (.ref y), .val (.ref y)] [.ref t', .ref t])) rfl (by rw [hml]; rfl) c17 (argsL := [.ref t, .ref t']) (rest := []) rfl rfl (by show 2 * 0 + 0 ≤ _; decide) (hb hbytes d44) (⟨rfl, hx.2.2.2.1.mv X16.warmed.alike hh16, hx.2.2.2.2.1.ty, hy.2.2.2.1.mv X16.warmed.alike hh16, hy.2.2.2.2.1.ty⟩)
      obtain ⟨v, rfl, q18, hv⟩ := E18
      have iff := Cod.eqv hx.2.2.2.2.1 hy.2.2.2.2.1 hx.2.2.2.2.2 hy.2.2.2.2.2
      rcases hv with ⟨rfl, he⟩ | ⟨rfl, he⟩
      · have c19 : Steps p.tables e below (s₁.setTop (entryFrame m #[.ref x, .ref y] 3)) (T18.setTop (mkF m 55 #[.val (.ref x), .val (.ref y), .val (.ref y)] [.int 1])) := Steps.trans g18 (by
          refine XS.ifNo X18.here hexec rfl (hb hbytes d47) rfl (i0_eq_f (by decide)) ?_
          refine iconstV X18.here hexec rfl 1 (hb hbytes d50) (by decide) ?_
          refine XS.goto X18.here hexec rfl (pc0 := 51) rfl (hb hbytes d51) (by decide) rfl ?_
          exact Steps.refl _)
        exact ⟨T18, some (.int 1), _, _, _, X18, rfl, rfl, rfl, (fun h => by cases h), ⟨1, rfl, q18.trans hh16, Or.inl ⟨rfl, iff.mp he⟩⟩, fun fs hl => c19.trans (X18.ireturnOut hexec hret rfl (Or.inr (Or.inl rfl)) (hb hbytes d55) hl)⟩
      · have c19 : Steps p.tables e below (s₁.setTop (entryFrame m #[.ref x, .ref y] 3)) (T18.setTop (mkF m 55 #[.val (.ref x), .val (.ref y), .val (.ref y)] [.int 0])) := Steps.trans g18 (by
          refine XS.ifYes X18.here hexec rfl (pc0 := 47) rfl (hb hbytes d47) rfl (i0_eq_t rfl) (by decide) rfl ?_
          refine iconstV X18.here hexec rfl 0 (hb hbytes d54) (by decide) ?_
          exact Steps.refl _)
        exact ⟨T18, some (.int 0), _, _, _, X18, rfl, rfl, rfl, (fun h => by cases h), ⟨0, rfl, q18.trans hh16, Or.inr ⟨rfl, fun q => he (iff.mpr q)⟩⟩, fun fs hl => c19.trans (X18.ireturnOut hexec hret rfl (Or.inr (Or.inl rfl)) (hb hbytes d55) hl)⟩
    · have c13 : Steps p.tables e below (s₁.setTop (entryFrame m #[.ref x, .ref y] 3)) (T11.setTop (mkF m 55 #[.val (.ref x), .val (.ref y), .val (.ref y)] [.int 0])) := c12.trans (by
        refine XS.icmpYes X11.here hexec rfl (pc0 := 33) rfl (hb hbytes d33) rfl (ii_ne_t hcd) (by decide) rfl ?_
        refine iconstV X11.here hexec rfl 0 (hb hbytes d54) (by decide) ?_
        exact Steps.refl _)
      exact ⟨T11, some (.int 0), _, _, _, X11, rfl, rfl, rfl, (fun h => by cases h), ⟨0, rfl, hh11, Or.inr ⟨rfl, Cod.dif hx.2.2.2.2.1 hy.2.2.2.2.1 hcd⟩⟩, fun fs hl => c13.trans (X11.ireturnOut hexec hret rfl (Or.inr (Or.inl rfl)) (hb hbytes d55) hl)⟩
theorem pays {l : Launch} {R : Room} {p : Program} {e : Env} {below : List Frame} {s : State} {sargs : Array Value} {len W : Nat} (x t : Addr) (V : Cell) (cd : Int32) (n : Nat) (f : Nat → Int32) (y t' : Addr) (V' : Cell) (cd' : Int32) (k : Nat) (g : Nat → Int32) (z : Int32) (htab : tab.before sargs s = true) (hfr : 2 ≤ R.frames) (hlo : W + 28 ≤ R.locals) :
    Back l R p e below s sargs yN len W (fun A₁ a₁ => A₁.cells + 0 ≤ R.cells ∧ A₁.slots + 0 ≤ R.slots ∧ P x t V cd n f y t' V' cd' k g z a₁ A₁.U) (fun A₁ _ v₁ B₁ => Says01 (SameT n f k g) v₁ A₁.U B₁.U ∧ B₁.locs = A₁.locs ++ [] ∧ B₁.cells = A₁.cells + 0 ∧ B₁.slots = A₁.slots + 0) :=
  (law l x t V cd n f y t' V' cd' k g z).pays htab hfr (by omega)
end SEq
end StrChars
namespace StrChars.Road
open Jvm Sem ClassFile Op Lib Jvm.Stand Jvm.Free Jvm.Free.XT
open Jvm.Lib.Cold (StaticIs)
/-- the words of String.equals(Object) -/
abbrev wordsEq : List Jvm.Cond := [.code SEq.yN SEq.yB 3 (some .boolean), .initialized ST, .classLink ST 10 ST, .fieldLink ST 38 ST "COMPACT_STRINGS" "Z", .fieldLink ST 15 ST "coder" "B", .fieldLink ST 9 ST "value" "[B", .methodLink ST 541 LEq.yN, .static LEq.yN, .code LEq.yN LEq.yB 3 (some .boolean), .initialized "java/lang/StringLatin1"]
theorem tabEq_of {a : Array Value} {s : State} (h : ∀ w ∈ wordsEq, w.before a s = true) : SEq.tab.before a s = true := by
  have hl : LEq.tab.before a s = true := unparts (wk h (.code LEq.yN LEq.yB 3 (some .boolean))) (wks h (.initialized LEq.yN.cls :: LEq.site))
  have q := consq hl h
  exact unparts (wk q (.code SEq.yN SEq.yB 3 (some .boolean))) (wks q (.initialized SEq.yN.cls :: SEq.site))
theorem movedEq {Z s : State} {a0 args : Array Value} (hZ : Z.Warmed39 s.vm) (hw : ∀ d ∈ wordsEq, d.before a0 Z = true) : ∀ d ∈ wordsEq, d.before args s = true := fun d hd => by
  have t : ∀ d ∈ wordsEq, (d.onTables && d.keepsFace) = true := by decide +kernel
  exact RoadKit.mv hZ (hw d hd) (t d hd)
/-- the road's facts of a String, as the laws ask it -/
theorem txt_of {Z U : State} {a0 : Array Value} {kI : Nat} (wi : (Jvm.Cond.instantiable ST kI).before a0 Z = true) (al : Z.vm.Alike U.vm) {x t : Addr} {kb : ClassId} {cs : List Int32} {cd N2 : Int32} {vs : List Value} (E : RoadKit.Exa Z U.heap x ST) (V : RoadKit.Fld Z U.heap x ST "value" "[B" (.ref t)) (C : RoadKit.Fld Z U.heap x ST "coder" "B" (.int cd)) (K : RoadKit.Arv Z U.heap t kb .byte N2 vs (.int 0)) (hc : CodA cs cd N2 vs) (hb : ∀ c ∈ cs, ¬ c < 0 ∧ ¬ (65535 : Int32) < c) (l2 : cs.length ≤ 4000) :
    ∃ A, Txt x t A cd cs.length (fun j => cs.getD j 0) U := by
  obtain ⟨A, K1, K2, K3, K4, K5, K6⟩ := K
  have hcod := hc.cod (by omega) K3 K5
  obtain ⟨D, fV, fC, hB, F1, F2, g1, g2, -, -⟩ := strObj wi al E V C
  exact ⟨A, ⟨_, hB.2.2.1, D, hB.1, rfl, by cases q : D.vm <;> first | rfl | exact absurd q (hB.2.1.2 _)⟩, Has.of hB F1 g1, Has.of hB F2 g2, ⟨K1.1, State.isArrayOf_alike al K1.2.1, K1.2.2, by rcases hcod with ⟨-, q, -⟩ | ⟨-, q, -⟩ <;> omega⟩, hcod, fun j hj => by
    have e : cs.getD j 0 = cs[j] := by simp [List.getD_eq_getElem?_getD, hj]
    show ¬ cs.getD j 0 < 0 ∧ ¬ 65535 < cs.getD j 0
    rw [e]; exact hb _ (List.getElem_mem _)⟩
theorem same_list (cs ds : List Int32) : SameT cs.length (fun j => cs.getD j 0) ds.length (fun j => ds.getD j 0) ↔ cs = ds := by
  constructor
  · rintro ⟨e, q⟩
    refine List.ext_getElem e fun j h1 h2 => ?_
    have := q j h1
    simpa [List.getD_eq_getElem?_getD, h1, h2] using this
  · rintro rfl
    exact ⟨rfl, fun _ _ => rfl⟩
/-- **equals(Object) OF TWO SUCH STRINGS**: 1 just where the chars are the same -/
theorem eqW {p : Program} {l : Launch} {e : Env} {R : Room} {s : State} {args : Array Value} {below : List Frame} {len W : Nat} {Z : State} {a0 : Array Value} {h : Heap} (hZ : Z.Warmed39 s.vm) (hw : ∀ d ∈ wordsEq, d.before a0 Z = true) {kI : Nat} (wi : (Jvm.Cond.instantiable ST kI).before a0 Z = true)
    {x t : Addr} {kb : ClassId} {cs : List Int32} {cd N2 : Int32} {vs : List Value} (E : RoadKit.Exa Z h x ST) (V : RoadKit.Fld Z h x ST "value" "[B" (.ref t)) (C : RoadKit.Fld Z h x ST "coder" "B" (.int cd)) (K : RoadKit.Arv Z h t kb .byte N2 vs (.int 0)) (hc : CodA cs cd N2 vs) (hb : ∀ c ∈ cs, ¬ c < 0 ∧ ¬ (65535 : Int32) < c) (l2 : cs.length ≤ 4000)
    {y t' : Addr} {kb' : ClassId} {ds : List Int32} {cd' N2' : Int32} {vs' : List Value} (E' : RoadKit.Exa Z h y ST) (V' : RoadKit.Fld Z h y ST "value" "[B" (.ref t')) (C' : RoadKit.Fld Z h y ST "coder" "B" (.int cd')) (K' : RoadKit.Arv Z h t' kb' .byte N2' vs' (.int 0)) (hc' : CodA ds cd' N2' vs') (hb' : ∀ c ∈ ds, ¬ c < 0 ∧ ¬ (65535 : Int32) < c) (l2' : ds.length ≤ 4000)
    {z : Int32} (S : RoadKit.Sta Z h ST "COMPACT_STRINGS" "Z" (.int z)) (hz : ¬ z = 0) (hfr : 2 ≤ R.frames) (hlo : W + 28 ≤ R.locals) :
    Back l R p e below s args (⟨"java/lang/String", "equals", "(Ljava/lang/Object;)Z"⟩ : MethodName) len W (fun P a => a = #[.ref x, .ref y] ∧ P.U.heap = h ∧ P.cells + 0 ≤ R.cells ∧ P.slots + 0 ≤ R.slots)
      (fun P _ v B => ∃ L, (((v = some (.int 1) ∧ cs = ds) ∨ (v = some (.int 0) ∧ ¬ cs = ds)) ∧ L = [] ∧ B.U.heap = h) ∧ B.locs = P.locs ++ L ∧ B.cells = P.cells + 0 ∧ B.slots = P.slots + 0) := by
  intro m meth c P g ig mk a X hg hsize hdg hW hn hp'
  obtain ⟨rfl, rfl, r1, r2⟩ := hp'
  have al : Z.vm.Alike P.U.vm := hZ.alike.trans X.warmed.alike
  obtain ⟨A, hx⟩ := txt_of wi al E V C K hc hb l2
  obtain ⟨A', hy⟩ := txt_of wi al E' V' C' K' hc' hb' l2'
  obtain ⟨v, B, X', ⟨⟨w, hv, hh, hq⟩, hl, hk, hs⟩, st⟩ := SEq.pays x t A cd cs.length (fun j => cs.getD j 0) y t' A' cd' ds.length (fun j => ds.getD j 0) z (tabEq_of (movedEq hZ hw)) hfr hlo m meth c P g ig mk _ X hg hsize hdg hW hn ⟨r1, r2, rfl, hx, hy, sta_is al S, hz⟩
  refine ⟨v, B, X', ⟨[], ⟨?_, rfl, hh⟩, hl, hk, hs⟩, st⟩
  rcases hq with ⟨rfl, q⟩ | ⟨rfl, q⟩
  · exact Or.inl ⟨hv, (same_list cs ds).mp q⟩
  · exact Or.inr ⟨hv, fun e => q ((same_list cs ds).mpr e)⟩
end StrChars.Road
namespace StrChars.Road
open Jvm Sem ClassFile Op Lib Jvm.Stand Jvm.Free Jvm.Free.XT
open Jvm.Lib.Cold (StaticIs)
/-- what backV says of its String, as the contracts of this text ask it: cs's low bytes, coder 0 -/
theorem codOf {cs : List Int32} {n : Nat} (hn : cs.length = n) (hb : ∀ c ∈ cs, ¬ 255 < c) : CodA cs 0 (Int32.ofNat n) ((cs.map lo8).map Value.int) := Or.inl ⟨rfl, by rw [hn], by simp [List.map_map, Function.comp_def], hb⟩
end StrChars.Road
end Jvm.Pilot.@@N@@
namespace Jvm.Pilot.@@N@@
open Jvm Jvm.ClassFile Sem Op Lib Jvm.Free Jvm.Stand Jvm.LawKit Jvm.RoadKit Bundle Jvm.Pilot.@@N@@.Jvm.D
section OwnKit
variable {p : Program} {l : Launch} {e : Env} {R : Room} {s : State} {m : MethodId} {args : Array Value} {below : List Frame} {meth : Method} {c : Code} {T : State} {locs : List Loc} {cells slots : Nat} {Z : State} {a0 : Array Value} {h : Heap} {Q : Option Value → Heap → List Loc → Prop} {rc rs : Nat} {S S' : State}
/-- from S the body ends well -/
def own_go (p : Program) (e : Env) (below : List Frame) (s : State) (Q : Option Value → Heap → List Loc → Prop) (rc rs : Nat) (S : State) : Prop :=
  ∃ s₂ o, Steps p.tables e below S s₂ ∧ s₂.status = .running ∧ Ended s₂ below o ∧ ∃ v L, o = .returned v ∧ Q v s₂.heap L ∧ FrameEnd s o s₂ L rc rs
theorem own_st (k : ∀ t, Steps p.tables e below S' t → Steps p.tables e below S t) (g : own_go p e below s Q rc rs S') : own_go p e below s Q rc rs S := by
  obtain ⟨s₂, o, h1, h2⟩ := g
  exact ⟨s₂, o, k _ h1, h2⟩
theorem own_ret (X : Stand p l e R s m args below meth c T locs cells slots) (hx : p.tables.exec = Jvm.exec) (hlk : meth.locks = false) {pc : Nat} {Ls : Array Slot} {w : Value} {t : FieldType} {i : Instr} {rest : List Value} (hret : meth.sig.returnType = some t) (hn : narrow t w = w)
    (hi : (i = .ireturn ∧ (t = .int ∨ t = .boolean ∨ t = .byte ∨ t = .char ∨ t = .short) ∧ ∃ z, w = .int z) ∨ (i = .lreturn ∧ t = .long ∧ ∃ z, w = .long z) ∨ (i = .dreturn ∧ t = .double ∧ ∃ z, w = .double z) ∨ (i = .freturn ∧ t = .float ∧ ∃ z, w = .float z) ∨ (i = .areturn ∧ t.isReference = true ∧ w.isRef = true))
    (hd : decode c.code pc = .ok (i, 1)) (hc : cells ≤ rc) (hs : slots ≤ rs) (hQ : Q (some w) T.heap locs) : own_go p e below s Q rc rs (T.setTop (mkF m pc Ls (w :: rest))) := by
  obtain ⟨fs, hr, hrun, hended, hW, hsame⟩ := X.leave (v := some w) (fun h => by rw [hret] at h; cases h) hlk
  exact ⟨_, _, retOut X hx hret hn hi hd hr, hrun, hended, _, _, rfl, hQ, ⟨_, rfl⟩, hW, hsame.mono hc hs⟩
theorem own_retI (X : Stand p l e R s m args below meth c T locs cells slots) (hx : p.tables.exec = Jvm.exec) (hlk : meth.locks = false) {pc : Nat} {Ls : Array Slot} {z : Int32} {rest : List Value} (hret : meth.sig.returnType = some .int)
    (hd : decode c.code pc = .ok (.ireturn, 1)) (hc : cells ≤ rc) (hs : slots ≤ rs) (hQ : Q (some (.int z)) T.heap locs) : own_go p e below s Q rc rs (T.setTop (mkF m pc Ls (.int z :: rest))) :=
  own_ret X hx hlk hret rfl (Or.inl ⟨rfl, Or.inl rfl, z, rfl⟩) hd hc hs hQ
theorem own_retN (X : Stand p l e R s m args below meth c T locs cells slots) (hx : p.tables.exec = Jvm.exec) (hlk : meth.locks = false) {pc : Nat} {Ls : Array Slot} {z : Int32} {t : FieldType} {rest : List Value} (hret : meth.sig.returnType = some t) (ht : t = .boolean ∨ t = .byte ∨ t = .char ∨ t = .short) (hn : narrow t (.int z) = .int z)
    (hd : decode c.code pc = .ok (.ireturn, 1)) (hc : cells ≤ rc) (hs : slots ≤ rs) (hQ : Q (some (.int z)) T.heap locs) : own_go p e below s Q rc rs (T.setTop (mkF m pc Ls (.int z :: rest))) :=
  own_ret X hx hlk hret hn (Or.inl ⟨rfl, Or.inr ht, z, rfl⟩) hd hc hs hQ
theorem own_retJ (X : Stand p l e R s m args below meth c T locs cells slots) (hx : p.tables.exec = Jvm.exec) (hlk : meth.locks = false) {pc : Nat} {Ls : Array Slot} {z : Int64} {rest : List Value} (hret : meth.sig.returnType = some .long)
    (hd : decode c.code pc = .ok (.lreturn, 1)) (hc : cells ≤ rc) (hs : slots ≤ rs) (hQ : Q (some (.long z)) T.heap locs) : own_go p e below s Q rc rs (T.setTop (mkF m pc Ls (.long z :: rest))) :=
  own_ret X hx hlk hret rfl (Or.inr (Or.inl ⟨rfl, rfl, z, rfl⟩)) hd hc hs hQ
theorem own_retA (X : Stand p l e R s m args below meth c T locs cells slots) (hx : p.tables.exec = Jvm.exec) (hlk : meth.locks = false) {pc : Nat} {Ls : Array Slot} {w : Value} {t : FieldType} {rest : List Value} (hret : meth.sig.returnType = some t) (ht : t.isReference = true) (hw : w.isRef = true)
    (hd : decode c.code pc = .ok (.areturn, 1)) (hc : cells ≤ rc) (hs : slots ≤ rs) (hQ : Q (some w) T.heap locs) : own_go p e below s Q rc rs (T.setTop (mkF m pc Ls (w :: rest))) :=
  own_ret X hx hlk hret (by cases w <;> cases t <;> first | rfl | (simp [Value.isRef] at hw; done) | (simp [FieldType.isReference] at ht; done)) (Or.inr (Or.inr (Or.inr (Or.inr ⟨rfl, ht, hw⟩)))) hd hc hs hQ
theorem own_ret0 (X : Stand p l e R s m args below meth c T locs cells slots) (hx : p.tables.exec = Jvm.exec) (hlk : meth.locks = false) {pc : Nat} {Ls : Array Slot} (hret : meth.sig.returnType = none)
    (hd : decode c.code pc = .ok (.return_, 1)) (hc : cells ≤ rc) (hs : slots ≤ rs) (hQ : Q none T.heap locs) : own_go p e below s Q rc rs (T.setTop (mkF m pc Ls [])) := by
  obtain ⟨fs, hr, hrun, hended, hW, hsame⟩ := X.leave (v := none) (fun _ => rfl) hlk
  exact ⟨_, _, X.returnOut hx hret hd hr, hrun, hended, _, _, rfl, hQ, ⟨_, rfl⟩, hW, hsame.mono hc hs⟩
/-- a body's contract at a heap -/
def own_Met (l : Launch) (Z : State) (y : MethodName) (bytes : ByteArray) (maxL : Nat) (ret : Option FieldType) (ws : List Jvm.Cond) (rm : Room) (as' : Array Value) (h : Heap) (Q : Option Value → Heap → List Loc → Prop) : Prop :=
  MetFree l y (head1 (Jvm.Cond.code y bytes maxL ret :: ws) rm) (fun a U => a = as' ∧ Z.Warmed39 U.vm ∧ U.heap = h) (fun _ _ _ _ _ => True) (fun _ U o U' => ∃ v L, o = .returned v ∧ Q v U'.heap L ∧ FrameEnd U o U' L rm.cells rm.slots)
theorem own_body {y : MethodName} {bytes : ByteArray} {maxL : Nat} {ret : Option FieldType} {ws : List Jvm.Cond} {rm : Room} {as' : Array Value} (hp : plainFor y = true)
    (k : ∀ (p : Program) (e : Env) (s : State) (m : MethodId) (below : List Frame) (meth : Method) (c : Code) (s₁ : State), p.tables.exec = Jvm.exec → c.code = bytes → c.maxLocals = maxL → s.vm.findClass y.cls = some m.cls → meth.name = y.name → meth.sig.returnType = ret → meth.locks = false → Stand p l e rm s m as' below meth c s₁ [] 0 0 → Z.Warmed39 s.vm → s₁.heap = h → own_go p e below s Q rm.cells rm.slots (s₁.setTop (entryFrame m as' maxL))) :
    own_Met l Z y bytes maxL ret ws rm as' h Q := by
  refine MetFree.of_bodySF hp hisR ?_
  intro p e s m args below meth c s₁ Bd hml0 hP hK
  obtain ⟨rfl, hZ, hh⟩ := hP
  exact k p e s m below meth c s₁ Bd.exec Bd.bytes hml0 (findClass_of_methodNamed Bd.named) (name_of_methodNamed Bd.named Bd.method).1 Bd.returns Bd.notSynchronized (Stand.of_body Bd) hZ (by rw [← hh, Bd.state]; rfl)
theorem own_callS (X : Stand p l e R s m args below meth c T locs cells slots) (hx : p.tables.exec = Jvm.exec) (hZ : Z.Warmed39 s.vm) {own : String} {index : Nat} {y : MethodName} {bytes : ByteArray} {maxL : Nat} {ret : Option FieldType} {rm : Room} {argsL rest : List Value} {Q' : Option Value → Heap → List Loc → Prop}
    (hM : own_Met l Z y bytes maxL ret [] rm argsL.toArray h Q') (hown : s.vm.findClass own = some m.cls) (w1 : (Jvm.Cond.methodLink own index y).before a0 Z = true) (w2 : (Jvm.Cond.static y).before a0 Z = true) (w3 : (Jvm.Cond.initialized y.cls).before a0 Z = true) (w4 : (Jvm.Cond.code y bytes maxL ret).before a0 Z = true)
    (hy : y.cls ≠ "java/lang/invoke/MethodHandle" ∧ y.cls ≠ "java/lang/invoke/VarHandle") (eT : T.heap = h) {g : JFrame} (hg : g.method = m) (hsize : g.locals.size = c.maxLocals) (hlen : ∀ sig, parseMethodDescriptor y.desc = some sig → argsL.length = sig.parameters.length) (hstack : g.stack = argsL.reverse ++ rest) {W : Nat} (hW : 2 * g.monitorRoom + (rest.map fun v => v.category).sum ≤ W)
    (hd : decode c.code g.pc = .ok (.invokestatic index, 3)) (hf : rm.frames + 1 ≤ R.frames) (hl : W + (maxL + 11) + rm.locals ≤ R.locals) (hc : cells + rm.cells ≤ R.cells) (hs : slots + rm.slots ≤ R.slots) :
    ∃ v T' L, Stand p l e R s m args below meth c T' (locs ++ L) (cells + rm.cells) (slots + rm.slots) ∧ Q' v T'.heap L ∧ ∀ target, Steps p.tables e below (T'.setTop { g with pc := g.pc + 3, stack := v.toList ++ rest }) target → Steps p.tables e below (T.setTop g) target := by
  obtain ⟨v, _, ⟨T1, L1, k1, n1⟩, -, X1, ⟨Lc, hQ, l1, y1, z1⟩, st⟩ := Jvm.LawKit.callS X hx (y := y) hown (mvT hZ w1) (mvT hZ w2) (mvT hZ w3) (mvT hZ w4) hy (backOf (W := W) hM hZ w4 w3 hf hl) hg hsize hlen hstack hW hd (fun _ _ => ⟨rfl, eT, hc, hs⟩)
  dsimp only [Pt.U, Pt.locs, Pt.cells, Pt.slots] at X1 l1 y1 z1 st hQ
  subst l1 y1 z1
  exact ⟨v, T1, Lc, X1, hQ, st⟩
theorem own_callV (X : Stand p l e R s m args below meth c T locs cells slots) (hx : p.tables.exec = Jvm.exec) (hZ : Z.Warmed39 s.vm) {own C : String} {index : Nat} {y z : MethodName} {bytes : ByteArray} {maxL : Nat} {ret : Option FieldType} {rm : Room} {b : Addr} {argsL rest : List Value} {Q' : Option Value → Heap → List Loc → Prop}
    (hM : own_Met l Z z bytes maxL ret [] rm (.ref b :: argsL).toArray h Q') (hown : s.vm.findClass own = some m.cls) (w1 : (Jvm.Cond.methodLink own index y).before a0 Z = true) (w2 : (Jvm.Cond.declares y).before a0 Z = true) (nf : NotFace s y) (w3 : (Jvm.Cond.selects C y z).before a0 Z = true) (w5 : (Jvm.Cond.instanceMethod z).before a0 Z = true)
    (w6 : (Jvm.Cond.initialized z.cls).before a0 Z = true) (w4 : (Jvm.Cond.code z bytes maxL ret).before a0 Z = true)
    (hy : y.cls ≠ "java/lang/invoke/MethodHandle" ∧ y.cls ≠ "java/lang/invoke/VarHandle") (eT : T.heap = h) (E : Exa Z h b C) {g : JFrame} (hg : g.method = m) (hsize : g.locals.size = c.maxLocals) (hlen : ∀ sig, parseMethodDescriptor y.desc = some sig → argsL.length = sig.parameters.length) (hstack : g.stack = argsL.reverse ++ .ref b :: rest) {W : Nat} (hW : 2 * g.monitorRoom + (rest.map fun v => v.category).sum ≤ W)
    (hd : decode c.code g.pc = .ok (.invokevirtual index, 3)) (hf : rm.frames + 1 ≤ R.frames) (hl : W + (maxL + 11) + rm.locals ≤ R.locals) (hc : cells + rm.cells ≤ R.cells) (hs : slots + rm.slots ≤ R.slots) :
    ∃ v T' L, Stand p l e R s m args below meth c T' (locs ++ L) (cells + rm.cells) (slots + rm.slots) ∧ Q' v T'.heap L ∧ ∀ target, Steps p.tables e below (T'.setTop { g with pc := g.pc + 3, stack := v.toList ++ rest }) target → Steps p.tables e below (T.setTop g) target := by
  obtain ⟨cq, kq, qa, qb, qc⟩ := isOf hZ eT E
  obtain ⟨v, _, ⟨T1, L1, k1, n1⟩, -, X1, ⟨Lc, hQ, l1, y1, z1⟩, st⟩ := X.virtualBack hx (y := y) (z := z) hown (mvT hZ w1) (mvT hZ w2) nf (mvT hZ w3) (mvT hZ w5) hy (backOf (W := W) hM hZ w4 w6 hf hl) qa qc hg hsize (Steps.refl _) hlen hstack hW hd (fun _ _ => ⟨rfl, eT, hc, hs⟩)
  dsimp only [Pt.U, Pt.locs, Pt.cells, Pt.slots] at X1 l1 y1 z1 st hQ
  subst l1 y1 z1
  exact ⟨v, T1, Lc, X1, hQ, fun _ k => st.trans k⟩
theorem own_callU (X : Stand p l e R s m args below meth c T locs cells slots) (hx : p.tables.exec = Jvm.exec) (hZ : Z.Warmed39 s.vm) {own C owner : String} {index : Nat} {y z : MethodName} {bytes : ByteArray} {maxL : Nat} {ret : Option FieldType} {rm : Room} {b : Addr} {argsL rest : List Value} {Q' : Option Value → Heap → List Loc → Prop}
    (hM : own_Met l Z z bytes maxL ret [] rm (.ref b :: argsL).toArray h Q') (hown : s.vm.findClass own = some m.cls) (w1 : (Jvm.Cond.methodLink own index y).before a0 Z = true) (w2 : (Jvm.Cond.sameMethod y.cls owner y.name y.desc).before a0 Z = true) (w7 : (Jvm.Cond.declares ⟨owner, y.name, y.desc⟩).before a0 Z = true) (w3 : (Jvm.Cond.selects C y z).before a0 Z = true) (w5 : (Jvm.Cond.instanceMethod z).before a0 Z = true)
    (w6 : (Jvm.Cond.initialized z.cls).before a0 Z = true) (w4 : (Jvm.Cond.code z bytes maxL ret).before a0 Z = true)
    (hy : owner ≠ "java/lang/invoke/MethodHandle" ∧ owner ≠ "java/lang/invoke/VarHandle") (eT : T.heap = h) (E : Exa Z h b C) {g : JFrame} (hg : g.method = m) (hsize : g.locals.size = c.maxLocals) (hlen : ∀ sig, parseMethodDescriptor y.desc = some sig → argsL.length = sig.parameters.length) (hstack : g.stack = argsL.reverse ++ .ref b :: rest) {W : Nat} (hW : 2 * g.monitorRoom + (rest.map fun v => v.category).sum ≤ W)
    (hd : decode c.code g.pc = .ok (.invokevirtual index, 3)) (hf : rm.frames + 1 ≤ R.frames) (hl : W + (maxL + 11) + rm.locals ≤ R.locals) (hc : cells + rm.cells ≤ R.cells) (hs : slots + rm.slots ≤ R.slots) :
    ∃ v T' L, Stand p l e R s m args below meth c T' (locs ++ L) (cells + rm.cells) (slots + rm.slots) ∧ Q' v T'.heap L ∧ ∀ target, Steps p.tables e below (T'.setTop { g with pc := g.pc + 3, stack := v.toList ++ rest }) target → Steps p.tables e below (T.setTop g) target := by
  obtain ⟨cq, kq, qa, qb, qc⟩ := isOf hZ eT E
  obtain ⟨v, _, ⟨T1, L1, k1, n1⟩, -, X1, ⟨Lc, hQ, l1, y1, z1⟩, st⟩ := X.virtualBackUp hx (x := y) (y := z) hown (mvT hZ w1) (mvT hZ w2) (mvT hZ w7) hy (mvT hZ w3) (mvT hZ w5) (backOf (W := W) hM hZ w4 w6 hf hl) qa qc hg hsize (Steps.refl _) hlen hstack hW hd (fun _ _ => ⟨rfl, eT, hc, hs⟩)
  dsimp only [Pt.U, Pt.locs, Pt.cells, Pt.slots] at X1 l1 y1 z1 st hQ
  subst l1 y1 z1
  exact ⟨v, T1, Lc, X1, hQ, fun _ k => st.trans k⟩
theorem own_callN (X : Stand p l e R s m args below meth c T locs cells slots) (hx : p.tables.exec = Jvm.exec) (hZ : Z.Warmed39 s.vm) {own : String} {index : Nat} {y : MethodName} {bytes : ByteArray} {maxL : Nat} {rm : Room} {b : Addr} {argsL rest : List Value} {Q' : Option Value → Heap → List Loc → Prop}
    (hM : own_Met l Z y bytes maxL none [] rm (.ref b :: argsL).toArray h Q') (hi : y.name = "<init>") (hown : s.vm.findClass own = some m.cls) (w1 : (Jvm.Cond.methodLink own index y).before a0 Z = true) (w2 : (Jvm.Cond.instanceMethod y).before a0 Z = true)
    (w3 : (Jvm.Cond.initialized y.cls).before a0 Z = true) (w4 : (Jvm.Cond.code y bytes maxL none).before a0 Z = true)
    (hy : y.cls ≠ "java/lang/invoke/MethodHandle" ∧ y.cls ≠ "java/lang/invoke/VarHandle") (eT : T.heap = h) {g : JFrame} (hg : g.method = m) (hsize : g.locals.size = c.maxLocals) (hlen : ∀ sig, parseMethodDescriptor y.desc = some sig → argsL.length = sig.parameters.length) (hstack : g.stack = argsL.reverse ++ .ref b :: rest) {W : Nat} (hW : 2 * g.monitorRoom + (rest.map fun v => v.category).sum ≤ W)
    (hd : decode c.code g.pc = .ok (.invokespecial index, 3)) (hf : rm.frames + 1 ≤ R.frames) (hl : W + (maxL + 11) + rm.locals ≤ R.locals) (hc : cells + rm.cells ≤ R.cells) (hs : slots + rm.slots ≤ R.slots) :
    ∃ v T' L, Stand p l e R s m args below meth c T' (locs ++ L) (cells + rm.cells) (slots + rm.slots) ∧ Q' v T'.heap L ∧ ∀ target, Steps p.tables e below (T'.setTop { g with pc := g.pc + 3, stack := v.toList ++ rest }) target → Steps p.tables e below (T.setTop g) target := by
  obtain ⟨v, _, ⟨T1, L1, k1, n1⟩, -, X1, ⟨Lc, hQ, l1, y1, z1⟩, st⟩ := X.specialBack hx (y := y) hi hown (mvT hZ w1) (mvT hZ w2) (mvT hZ w4) hy (backOf (W := W) hM hZ w4 w3 hf hl) hg hsize (Steps.refl _) hlen hstack hW hd (fun _ _ => ⟨rfl, eT, hc, hs⟩)
  dsimp only [Pt.U, Pt.locs, Pt.cells, Pt.slots] at X1 l1 y1 z1 st hQ
  subst l1 y1 z1
  exact ⟨v, T1, Lc, X1, hQ, fun _ k => st.trans k⟩
/-- a reference laid into an array that the walk has made -/
theorem own_put (X : Stand p l e R s m args below meth c T locs cells slots) (hx : p.tables.exec = Jvm.exec) (hZ : Z.Warmed39 s.vm) (eT : T.heap = h) {a : Addr} {k : ClassId} {C : String} {z : Int32} {vs : List Value} {dv : Value} (V : Arv Z h a k (.object C) z vs dv) (O : Ovr Z k C) {y : Addr} (I : Ins Z h y C true) {j : Int32} (hj : ¬ j < 0 ∧ j < z) (i : Nat) (hi : j.toNatClampNeg = i) (hl : i < vs.length)
    {g : JFrame} (hg : g.method = m) {rest : List Value} (hs : g.stack = .ref y :: .int j :: .ref a :: rest) (hd : decode c.code g.pc = .ok (.aastore, 1)) :
    ∃ T' h', Stand p l e R s m args below meth c T' (locs ++ [⟨a, j.toNatClampNeg⟩]) cells slots ∧ T'.heap = h' ∧ Wr h h' a j.toNatClampNeg (.ref y) ∧ Arv Z h' a k (.object C) z (vs.set i (.ref y)) dv ∧ ∀ target, Steps p.tables e below (T'.setTop { g with pc := g.pc + 1, stack := rest }) target → Steps p.tables e below (T.setTop g) target := by
  obtain ⟨cl, A, q1, S, q3, H, G⟩ := V
  obtain ⟨T', h', X', e', W, st⟩ := stR X hx hZ eT A (j := j) (inb_of S hj) rfl (Sto.ofV A q1 O I) hg hs hd
  exact ⟨T', h', X', e', W, Arv.set A q1 S q3 H G rfl W i hi hl, st⟩
theorem own_get (X : Stand p l e R s m args below meth c T locs cells slots) (hx : p.tables.exec = Jvm.exec) (hZ : Z.Warmed39 s.vm) (eT : T.heap = h) {a : Addr} {k : ClassId} {ty : FieldType} {z : Int32} {vs : List Value} {dv : Value} (V : Arv Z h a k ty z vs dv) (hty : ty.isReference = true) {j : Int32} (hj : ¬ j < 0 ∧ j < z) {v : Value} (hv : vs.getD j.toNatClampNeg dv = v)
    {g : JFrame} (hg : g.method = m) {rest : List Value} (hs : g.stack = .int j :: .ref a :: rest) (hd : decode c.code g.pc = .ok (.aaload, 1)) :
    ∀ target, Steps p.tables e below (T.setTop { g with pc := g.pc + 1, stack := v :: rest }) target → Steps p.tables e below (T.setTop g) target := by
  obtain ⟨cl, A, q1, S, q3, H, G⟩ := V
  intro target k
  exact X.aaload hx (by rw [eT]; exact A.1) (State.isArrayOf_alike hZ.alike A.2.1) hty A.2.2 (inb_of S hj) (H.at (inb_of S hj) hv) hg hs hd target k
/-- an array of references of a written length, made -/
theorem own_arr (X : Stand p l e R s m args below meth c T locs cells slots) (hx : p.tables.exec = Jvm.exec) (hZ : Z.Warmed39 s.vm) {own C : String} {index : Nat} (hown : s.vm.findClass own = some m.cls) (w1 : (Jvm.Cond.classLink own index C).before a0 Z = true) (w2 : (Jvm.Cond.arrayOver (.object C)).before a0 Z = true) (eT : T.heap = h)
    {g : JFrame} (hg : g.method = m) (hd : decode c.code g.pc = .ok (.anewarray index, 3)) {n : Int32} {rest : List Value} (hs : g.stack = .int n :: rest) (hn : ¬ n < 0) {cap : Nat} (hcap : n.toNatClampNeg ≤ cap) (hb : cap * 8 ≤ 536870912) (hc : cells + 1 ≤ R.cells) (hl : slots + cap ≤ R.slots) {ad : String} (had : "[" ++ (FieldType.object C).toString = ad) :
    ∃ T' h' k a, Stand p l e R s m args below meth c T' locs (cells + 1) (slots + cap) ∧ T'.heap = h' ∧ a = h.size ∧ Ext h h' ∧ Arv Z h' a k (.object C) n (List.replicate cap .null) .null ∧ Exa Z h' a ad ∧ Ovr Z k C ∧
      ∀ target, Steps p.tables e below (T'.setTop { g with pc := g.pc + 3, stack := .ref a :: rest }) target → Steps p.tables e below (T.setTop g) target := by
  obtain ⟨T', h', k, X', e', E, A, Ex, O, st⟩ := newRE X hx hZ hown w1 w2 eT hg hd hs hn hcap hb hc hl had
  exact ⟨T', h', k, _, X', e', rfl, E, (Arv.new A hn).pad (pad_rep [] .null cap), Ex, O, st⟩
theorem own_len (X : Stand p l e R s m args below meth c T locs cells slots) (hx : p.tables.exec = Jvm.exec) (hZ : Z.Warmed39 s.vm) (eT : T.heap = h) {a : Addr} {k : ClassId} {ty : FieldType} {z : Int32} {vs : List Value} {dv : Value} (V : Arv Z h a k ty z vs dv)
    {g : JFrame} (hg : g.method = m) {rest : List Value} (hs : g.stack = .ref a :: rest) (hd : decode c.code g.pc = .ok (.arraylength, 1)) :
    ∀ target, Steps p.tables e below (T.setTop { g with pc := g.pc + 1, stack := .int z :: rest }) target → Steps p.tables e below (T.setTop g) target := by
  obtain ⟨cl, A, q1, S, q3, H, G⟩ := V
  intro target k
  refine X.arraylength hx (by rw [eT]; exact A.1) (State.isArrayOf_alike hZ.alike A.2.1) hg hs hd _ ?_
  rw [len_of S q3]
  exact k
theorem own_osz {n0 : Nat} (O : Old Z n0 h) : n0 ≤ h.size := by have := O.2.1; rw [O.1] at this; exact this
theorem own_fldI {t : Term} {C n d : String} {k : Int32} {a : Addr} (ev : t.eval args Z none [] Z = some (.ref a)) (hh : (Jvm.Cond.eq (Term.field t C n d) (Term.int k)).value args Z none Z [] = some true) : Fld Z Z.heap a C n d (.int k) := by
  refine Fld.start ?_
  rw [← fld_at (t := t) (args := args) (first := Z) (o := none) (idx := []) ev]
  cases hq : (Term.field t C n d).eval args Z none [] Z with
  | none => simp [Cond.value, hq] at hh
  | some v =>
    simp only [Cond.value, hq, Term.int_eval] at hh
    cases v <;> simp at hh ⊢ <;> exact hh
theorem own_fldJ {t : Term} {C n d : String} {k : Int64} {a : Addr} (ev : t.eval args Z none [] Z = some (.ref a)) (hh : (Jvm.Cond.eq (Term.field t C n d) (Term.long k)).value args Z none Z [] = some true) : Fld Z Z.heap a C n d (.long k) := by
  refine Fld.start ?_
  rw [← fld_at (t := t) (args := args) (first := Z) (o := none) (idx := []) ev]
  cases hq : (Term.field t C n d).eval args Z none [] Z with
  | none => simp [Cond.value, hq] at hh
  | some v =>
    have hk : (Term.long k).eval args Z none [] Z = some (.long k) := rfl
    simp only [Cond.value, hq, hk] at hh
    cases v <;> simp at hh ⊢ <;> exact hh
theorem own_fldN {t : Term} {C n d : String} {a : Addr} (ev : t.eval args Z none [] Z = some (.ref a)) (hh : (Jvm.Cond.eq (Term.field t C n d) Term.null).value args Z none Z [] = some true) : Fld Z Z.heap a C n d .null := by
  refine Fld.start ?_
  rw [← fld_at (t := t) (args := args) (first := Z) (o := none) (idx := []) ev]
  exact null_v hh
theorem own_fldR {t u : Term} {C n d : String} {a b : Addr} (ev : t.eval args Z none [] Z = some (.ref a)) (eu : u.eval args Z none [] Z = some (.ref b)) (hh : (Jvm.Cond.eq (Term.field t C n d) u).value args Z none Z [] = some true) : Fld Z Z.heap a C n d (.ref b) := by
  refine Fld.start ?_
  rw [← fld_at (t := t) (args := args) (first := Z) (o := none) (idx := []) ev]
  cases hq : (Term.field t C n d).eval args Z none [] Z with
  | none => simp [Cond.value, hq] at hh
  | some v => cases v <;> simp [Cond.value, hq, eu] at hh ⊢ <;> exact hh
theorem own_fldX {t : Term} {C n d K : String} {a : Addr} (ev : t.eval args Z none [] Z = some (.ref a)) (hh : (Jvm.Cond.exactly (Term.field t C n d) K).value args Z none Z [] = some true) : ∃ b, Fld Z Z.heap a C n d (.ref b) ∧ Exa Z Z.heap b K := by
  obtain ⟨b, hb⟩ := exa_v hh
  refine ⟨b, Fld.start ?_, Exa.start hb hh⟩
  rw [← fld_at (t := t) (args := args) (first := Z) (o := none) (idx := []) ev]
  exact hb
theorem own_ne {h : Heap} {a b : Addr} {C n d : String} {i j : Int32} (F : Fld Z h a C n d (.int i)) (G : Fld Z h b C n d (.int j)) (q : i ≠ j) : a ≠ b := F.ne G fun r => q (Value.int.inj r)
end OwnKit
section OwnKit3
variable {p : Program} {l : Launch} {e : Env} {R : Room} {s : State} {m : MethodId} {args : Array Value} {below : List Frame} {meth : Method} {c : Code} {T : State} {locs : List Loc} {cells slots : Nat} {Z : State} {a0 : Array Value} {h : Heap}
/-- an array of a primitive kind of a written length, made -/
theorem own_newP (X : Stand p l e R s m args below meth c T locs cells slots) (hx : p.tables.exec = Jvm.exec) (hZ : Z.Warmed39 s.vm) {aty : ArrayType} (w : (Jvm.Cond.arrayClass (newarray.typeOf aty)).before a0 Z = true) (eT : T.heap = h)
    {g : JFrame} (hg : g.method = m) (hd : decode c.code g.pc = .ok (.newarray aty, 2)) {n : Int32} {rest : List Value} (hs : g.stack = .int n :: rest) (hn : ¬ n < 0) {cap : Nat} (hcap : n.toNatClampNeg ≤ cap) (hb : cap * 8 ≤ 536870912) (hc : cells + 1 ≤ R.cells) (hl : slots + cap ≤ R.slots) :
    ∃ T' h' k a, Stand p l e R s m args below meth c T' locs (cells + 1) (slots + cap) ∧ T'.heap = h' ∧ a = h.size ∧ Ext h h' ∧ Arv Z h' a k (newarray.typeOf aty) n (List.replicate cap (defaultValue (newarray.typeOf aty))) (defaultValue (newarray.typeOf aty)) ∧
      ∀ target, Steps p.tables e below (T'.setTop { g with pc := g.pc + 2, stack := .ref a :: rest }) target → Steps p.tables e below (T.setTop g) target := by
  obtain ⟨T', h', k, X', e', E, A, st⟩ := newP X hx hZ w eT hg hd hs hn hcap hb hc hl
  exact ⟨T', h', k, _, X', e', rfl, E, (Arv.new A hn).pad (pad_rep [] _ cap), st⟩
theorem own_putC (X : Stand p l e R s m args below meth c T locs cells slots) (hx : p.tables.exec = Jvm.exec) (hZ : Z.Warmed39 s.vm) (eT : T.heap = h) {a : Addr} {k : ClassId} {z : Int32} {vs : List Value} {dv : Value} (V : Arv Z h a k .char z vs dv) {j x y : Int32} (hxy : nar .char x = y) (hj : ¬ j < 0 ∧ j < z) (i : Nat) (hi : j.toNatClampNeg = i) (hl : i < vs.length)
    {g : JFrame} (hg : g.method = m) {rest : List Value} (hs : g.stack = .int x :: .int j :: .ref a :: rest) (hd : decode c.code g.pc = .ok (.castore, 1)) :
    ∃ T' h', Stand p l e R s m args below meth c T' (locs ++ [⟨a, j.toNatClampNeg⟩]) cells slots ∧ T'.heap = h' ∧ Wr h h' a j.toNatClampNeg (.int y) ∧ Arv Z h' a k .char z (vs.set i (.int y)) dv ∧ ∀ target, Steps p.tables e below (T'.setTop { g with pc := g.pc + 1, stack := rest }) target → Steps p.tables e below (T.setTop g) target := by
  subst hxy
  obtain ⟨cl, A, q1, S, q3, H, G⟩ := V
  obtain ⟨T', h', X', e', W, st⟩ := stC X hx hZ eT A (j := j) (inb_of S hj) hg hs hd
  exact ⟨T', h', X', e', W, Arv.set A q1 S q3 H G (fits_nar_char x) W i hi hl, st⟩
theorem own_putB (X : Stand p l e R s m args below meth c T locs cells slots) (hx : p.tables.exec = Jvm.exec) (hZ : Z.Warmed39 s.vm) (eT : T.heap = h) {a : Addr} {k : ClassId} {z : Int32} {vs : List Value} {dv : Value} (V : Arv Z h a k .byte z vs dv) {j x y : Int32} (hxy : nar .byte x = y) (hj : ¬ j < 0 ∧ j < z) (i : Nat) (hi : j.toNatClampNeg = i) (hl : i < vs.length)
    {g : JFrame} (hg : g.method = m) {rest : List Value} (hs : g.stack = .int x :: .int j :: .ref a :: rest) (hd : decode c.code g.pc = .ok (.bastore, 1)) :
    ∃ T' h', Stand p l e R s m args below meth c T' (locs ++ [⟨a, j.toNatClampNeg⟩]) cells slots ∧ T'.heap = h' ∧ Wr h h' a j.toNatClampNeg (.int y) ∧ Arv Z h' a k .byte z (vs.set i (.int y)) dv ∧ ∀ target, Steps p.tables e below (T'.setTop { g with pc := g.pc + 1, stack := rest }) target → Steps p.tables e below (T.setTop g) target := by
  subst hxy
  obtain ⟨cl, A, q1, S, q3, H, G⟩ := V
  obtain ⟨T', h', X', e', W, st⟩ := stB X hx hZ eT A (j := j) (inb_of S hj) hg hs hd
  exact ⟨T', h', X', e', W, Arv.set A q1 S q3 H G (fits_nar_byte x) W i hi hl, st⟩
theorem own_nz {t : Term} {k z : Int32} (ev : t.eval args Z none [] Z = some (.int z)) (hh : (Jvm.Cond.not (Jvm.Cond.eq t (Term.int k))).value args Z none Z [] = some true) : ¬ z = k := by
  have q := not_v hh
  simp only [Cond.value, ev, Term.int_eval] at q
  simpa using q
theorem own_255 (x : Int32) : ¬ (255 : Int32) < x &&& 255 := by
  have h1 := c_and x 255 (by decide)
  rw [Int32.lt_iff_toInt_lt]; omega
theorem own_p255 (x : Int32) : ¬ x &&& 255 < 0 ∧ ¬ (255 : Int32) < x &&& 255 := by
  have h1 := c_and x 255 (by decide)
  refine ⟨?_, own_255 x⟩
  rw [Int32.lt_iff_toInt_lt]; have : (0 : Int32).toInt = 0 := rfl
  omega
end OwnKit3
section OwnKitW
variable {p : Program} {l : Launch} {e : Env} {R : Room} {s : State} {m : MethodId} {args : Array Value} {below : List Frame} {meth : Method} {c : Code} {T : State} {locs : List Loc} {cells slots : Nat} {Z : State} {a0 : Array Value} {h h' : Heap} {Q : Option Value → Heap → List Loc → Prop} {rc rs : Nat} {S S' : State} {EL : List (String × Nat)} {vm vm0 : Vm} {k0 : Nat}
/-- from S the body ends well; String constants may have been loaded meanwhile -/
def own_goW (Z : State) (EL : List (String × Nat)) (p : Program) (e : Env) (below : List Frame) (s : State) (h : Heap) (Q : Option Value → Heap → List Loc → Prop) (rc rs : Nat) (S : State) : Prop :=
  ∃ s₂ o, Steps p.tables e below S s₂ ∧ s₂.status = .running ∧ Ended s₂ below o ∧ ∃ v L, o = .returned v ∧ Q v s₂.heap L ∧ CHr Z EL s.vm h s₂.vm s₂.heap ∧ ReturnedEndW s o s₂ L rc rs
theorem own_stW (k : ∀ t, Steps p.tables e below S' t → Steps p.tables e below S t) (g : own_goW Z EL p e below s h Q rc rs S') : own_goW Z EL p e below s h Q rc rs S := by
  obtain ⟨s₂, o, h1, h2⟩ := g
  exact ⟨s₂, o, k _ h1, h2⟩
theorem own_endW {L : List Loc} {k n k' n' : Nat} {o : Outcome} {t : State} (q : ReturnedEndW s o t L k n) (h1 : k ≤ k') (h2 : n ≤ n') : ReturnedEndW s o t L k' n' := ⟨q.1, q.2.1, q.2.2.1, q.2.2.2.mono h1 h2⟩
theorem own_retW (X : Stand p l e R (s.setVm vm0) m args below meth c T locs cells slots) (hx : p.tables.exec = Jvm.exec) (hlk : meth.locks = false) (hS : s.Since vm0 k0) (hk : k0 ≤ h'.size) (hZ : Z.Warmed39 vm0) (hEL : EW Z a0 EL) (C : CHr Z EL s.vm h vm0 h') (eT : T.heap = h') {pc : Nat} {Ls : Array Slot} {w : Value} {t : FieldType} {i : Instr} {rest : List Value} (hret : meth.sig.returnType = some t) (hn : narrow t w = w)
    (hi : (i = .ireturn ∧ (t = .int ∨ t = .boolean ∨ t = .byte ∨ t = .char ∨ t = .short) ∧ ∃ z, w = .int z) ∨ (i = .lreturn ∧ t = .long ∧ ∃ z, w = .long z) ∨ (i = .dreturn ∧ t = .double ∧ ∃ z, w = .double z) ∨ (i = .freturn ∧ t = .float ∧ ∃ z, w = .float z) ∨ (i = .areturn ∧ t.isReference = true ∧ w.isRef = true))
    (hd : decode c.code pc = .ok (i, 1)) (hc : cells ≤ rc) (hs : slots ≤ rs) (hQ : Q (some w) T.heap locs) : own_goW Z EL p e below s h Q rc rs (T.setTop (mkF m pc Ls (w :: rest))) := by
  obtain ⟨fs, hr, hrun, hended, hW⟩ := X.leaveW hS (by rw [eT]; exact hk) (v := some w) (fun h => by rw [hret] at h; cases h) hlk
  have C2 := C.trans (CHv.at X hZ hEL C.1)
  refine ⟨_, _, retOut X hx hret hn hi hd hr, hrun, hended, _, _, rfl, hQ, ?_, own_endW hW hc hs⟩
  show CHr Z EL s.vm h T.vm T.heap
  rw [eT]; exact C2
theorem own_retIW (X : Stand p l e R (s.setVm vm0) m args below meth c T locs cells slots) (hx : p.tables.exec = Jvm.exec) (hlk : meth.locks = false) (hS : s.Since vm0 k0) (hk : k0 ≤ h'.size) (hZ : Z.Warmed39 vm0) (hEL : EW Z a0 EL) (C : CHr Z EL s.vm h vm0 h') (eT : T.heap = h') {pc : Nat} {Ls : Array Slot} {z : Int32} {rest : List Value} (hret : meth.sig.returnType = some .int)
    (hd : decode c.code pc = .ok (.ireturn, 1)) (hc : cells ≤ rc) (hs : slots ≤ rs) (hQ : Q (some (.int z)) T.heap locs) : own_goW Z EL p e below s h Q rc rs (T.setTop (mkF m pc Ls (.int z :: rest))) :=
  own_retW X hx hlk hS hk hZ hEL C eT hret rfl (Or.inl ⟨rfl, Or.inl rfl, z, rfl⟩) hd hc hs hQ
theorem own_retNW (X : Stand p l e R (s.setVm vm0) m args below meth c T locs cells slots) (hx : p.tables.exec = Jvm.exec) (hlk : meth.locks = false) (hS : s.Since vm0 k0) (hk : k0 ≤ h'.size) (hZ : Z.Warmed39 vm0) (hEL : EW Z a0 EL) (C : CHr Z EL s.vm h vm0 h') (eT : T.heap = h') {pc : Nat} {Ls : Array Slot} {z : Int32} {t : FieldType} {rest : List Value} (hret : meth.sig.returnType = some t) (ht : t = .boolean ∨ t = .byte ∨ t = .char ∨ t = .short) (hn : narrow t (.int z) = .int z)
    (hd : decode c.code pc = .ok (.ireturn, 1)) (hc : cells ≤ rc) (hs : slots ≤ rs) (hQ : Q (some (.int z)) T.heap locs) : own_goW Z EL p e below s h Q rc rs (T.setTop (mkF m pc Ls (.int z :: rest))) :=
  own_retW X hx hlk hS hk hZ hEL C eT hret hn (Or.inl ⟨rfl, Or.inr ht, z, rfl⟩) hd hc hs hQ
theorem own_retAW (X : Stand p l e R (s.setVm vm0) m args below meth c T locs cells slots) (hx : p.tables.exec = Jvm.exec) (hlk : meth.locks = false) (hS : s.Since vm0 k0) (hk : k0 ≤ h'.size) (hZ : Z.Warmed39 vm0) (hEL : EW Z a0 EL) (C : CHr Z EL s.vm h vm0 h') (eT : T.heap = h') {pc : Nat} {Ls : Array Slot} {w : Value} {t : FieldType} {rest : List Value} (hret : meth.sig.returnType = some t) (ht : t.isReference = true) (hw : w.isRef = true)
    (hd : decode c.code pc = .ok (.areturn, 1)) (hc : cells ≤ rc) (hs : slots ≤ rs) (hQ : Q (some w) T.heap locs) : own_goW Z EL p e below s h Q rc rs (T.setTop (mkF m pc Ls (w :: rest))) :=
  own_retW X hx hlk hS hk hZ hEL C eT hret (by cases w <;> cases t <;> first | rfl | (simp [Value.isRef] at hw; done) | (simp [FieldType.isReference] at ht; done)) (Or.inr (Or.inr (Or.inr (Or.inr ⟨rfl, ht, hw⟩)))) hd hc hs hQ
theorem own_ret0W (X : Stand p l e R (s.setVm vm0) m args below meth c T locs cells slots) (hx : p.tables.exec = Jvm.exec) (hlk : meth.locks = false) (hS : s.Since vm0 k0) (hk : k0 ≤ h'.size) (hZ : Z.Warmed39 vm0) (hEL : EW Z a0 EL) (C : CHr Z EL s.vm h vm0 h') (eT : T.heap = h') {pc : Nat} {Ls : Array Slot} (hret : meth.sig.returnType = none)
    (hd : decode c.code pc = .ok (.return_, 1)) (hc : cells ≤ rc) (hs : slots ≤ rs) (hQ : Q none T.heap locs) : own_goW Z EL p e below s h Q rc rs (T.setTop (mkF m pc Ls [])) := by
  obtain ⟨fs, hr, hrun, hended, hW⟩ := X.leaveW hS (by rw [eT]; exact hk) (v := none) (fun _ => rfl) hlk
  have C2 := C.trans (CHv.at X hZ hEL C.1)
  refine ⟨_, _, X.returnOut hx hret hd hr, hrun, hended, _, _, rfl, hQ, ?_, own_endW hW hc hs⟩
  show CHr Z EL s.vm h T.vm T.heap
  rw [eT]; exact C2
/-- a body's contract at a heap, String constants loaded meanwhile allowed -/
def own_MetW (l : Launch) (Z : State) (EL : List (String × Nat)) (y : MethodName) (bytes : ByteArray) (maxL : Nat) (ret : Option FieldType) (ws : List Jvm.Cond) (rm : Room) (as' : Array Value) (h : Heap) (Q : Option Value → Heap → List Loc → Prop) : Prop :=
  MetFree l y (head1 (Jvm.Cond.code y bytes maxL ret :: ws) rm) (fun a U => a = as' ∧ Z.Warmed39 U.vm ∧ U.heap = h ∧ CHv Z EL U.vm h) (fun _ _ _ _ _ => True) (fun _ U o U' => ∃ v L, o = .returned v ∧ Q v U'.heap L ∧ CHr Z EL U.vm U.heap U'.vm U'.heap ∧ ReturnedEndW U o U' L rm.cells rm.slots)
theorem own_bodyW {y : MethodName} {bytes : ByteArray} {maxL : Nat} {ret : Option FieldType} {ws : List Jvm.Cond} {rm : Room} {as' : Array Value} (hp : plainFor y = true)
    (k : ∀ (p : Program) (e : Env) (s : State) (m : MethodId) (below : List Frame) (meth : Method) (c : Code) (s₁ : State), p.tables.exec = Jvm.exec → c.code = bytes → c.maxLocals = maxL → s.vm.findClass y.cls = some m.cls → meth.name = y.name → meth.sig.returnType = ret → meth.locks = false → Stand p l e rm (s.setVm s.vm) m as' below meth c s₁ [] 0 0 → Z.Warmed39 s.vm → s₁.heap = h → CHr Z EL s.vm h s.vm h → s.Since s.vm h.size → own_goW Z EL p e below s h Q rm.cells rm.slots (s₁.setTop (entryFrame m as' maxL))) :
    own_MetW l Z EL y bytes maxL ret ws rm as' h Q := by
  refine MetFree.of_bodySF hp hisR ?_
  intro p e s m args below meth c s₁ Bd hml0 hP hK
  obtain ⟨rfl, hZ, hh, hC⟩ := hP
  subst hh
  exact k p e s m below meth c s₁ Bd.exec Bd.bytes hml0 (findClass_of_methodNamed Bd.named) (name_of_methodNamed Bd.named Bd.method).1 Bd.returns Bd.notSynchronized (Stand.of_body Bd) hZ (by rw [Bd.state]; rfl) (CHr.refl hC) ((State.WarmedH.refl s).since _)
theorem own_callSW (X : Stand p l e R (s.setVm vm0) m args below meth c T locs cells slots) (hx : p.tables.exec = Jvm.exec) (hZ : Z.Warmed39 vm0) (hS : s.Since vm0 k0) (hk : k0 ≤ h.size) (hEL : EW Z a0 EL) (H : CHv Z EL vm0 h) {own : String} {index : Nat} {y : MethodName} {bytes : ByteArray} {maxL : Nat} {ret : Option FieldType} {rm : Room} {argsL rest : List Value} {Q' : Option Value → Heap → List Loc → Prop}
    (hM : own_MetW l Z EL y bytes maxL ret [] rm argsL.toArray h Q') (hown : vm0.findClass own = some m.cls) (w1 : (Jvm.Cond.methodLink own index y).before a0 Z = true) (w2 : (Jvm.Cond.static y).before a0 Z = true) (w3 : (Jvm.Cond.initialized y.cls).before a0 Z = true) (w4 : (Jvm.Cond.code y bytes maxL ret).before a0 Z = true)
    (hy : y.cls ≠ "java/lang/invoke/MethodHandle" ∧ y.cls ≠ "java/lang/invoke/VarHandle") (eT : T.heap = h) {g : JFrame} (hg : g.method = m) (hsize : g.locals.size = c.maxLocals) (hlen : ∀ sig, parseMethodDescriptor y.desc = some sig → argsL.length = sig.parameters.length) (hstack : g.stack = argsL.reverse ++ rest) {W : Nat} (hW : 2 * g.monitorRoom + (rest.map fun v => v.category).sum ≤ W)
    (hd : decode c.code g.pc = .ok (.invokestatic index, 3)) (hf : rm.frames + 1 ≤ R.frames) (hl : W + (maxL + 11) + rm.locals ≤ R.locals) (hc : cells + rm.cells ≤ R.cells) (hs : slots + rm.slots ≤ R.slots) :
    ∃ v T' L, Stand p l e R (s.setVm T'.vm) m args below meth c T' (locs ++ L) (cells + rm.cells) (slots + rm.slots) ∧ s.Since T'.vm T'.heap.size ∧ Z.Warmed39 T'.vm ∧ T'.vm.findClass own = some m.cls ∧ CHr Z EL vm0 h T'.vm T'.heap ∧ Q' v T'.heap L ∧ ∀ target, Steps p.tables e below (T'.setTop { g with pc := g.pc + 3, stack := v.toList ++ rest }) target → Steps p.tables e below (T.setTop g) target := by
  obtain ⟨v, _, ⟨T1, L1, k1, n1⟩, -, X1, hS1, hg1, ⟨Lc, hQ, l1, y1, z1, hC⟩, st⟩ := callSS X hx (y := y) hown (mvT (s := s.setVm vm0) hZ w1) (mvT (s := s.setVm vm0) hZ w2) (mvT (s := s.setVm vm0) hZ w3) (mvT (s := s.setVm vm0) hZ w4) hy (backOfSH (s := s) (W := W) hM hZ w4 w3 hf hl hEL H) hg hsize hlen hstack hW hd (fun _ _ => ⟨rfl, eT, hc, hs⟩)
  dsimp only [Pt.U, Pt.locs, Pt.cells, Pt.slots] at X1 hS1 hg1 l1 y1 z1 st hQ hC
  subst l1 y1 z1
  obtain ⟨X2, hS2, hZ2, ho2⟩ := rebS hS (by rw [eT]; exact hk) X1 hS1 hg1 hZ hown
  exact ⟨v, T1, Lc, X2, hS2, hZ2, ho2, hC, hQ, fun _ k => st.trans k⟩
theorem own_callNW (X : Stand p l e R (s.setVm vm0) m args below meth c T locs cells slots) (hx : p.tables.exec = Jvm.exec) (hZ : Z.Warmed39 vm0) (hS : s.Since vm0 k0) (hk : k0 ≤ h.size) (hEL : EW Z a0 EL) (H : CHv Z EL vm0 h) {own : String} {index : Nat} {y : MethodName} {bytes : ByteArray} {maxL : Nat} {rm : Room} {b : Addr} {argsL rest : List Value} {Q' : Option Value → Heap → List Loc → Prop}
    (hM : own_MetW l Z EL y bytes maxL none [] rm (.ref b :: argsL).toArray h Q') (hi : y.name = "<init>") (hown : vm0.findClass own = some m.cls) (w1 : (Jvm.Cond.methodLink own index y).before a0 Z = true) (w2 : (Jvm.Cond.instanceMethod y).before a0 Z = true)
    (w3 : (Jvm.Cond.initialized y.cls).before a0 Z = true) (w4 : (Jvm.Cond.code y bytes maxL none).before a0 Z = true)
    (hy : y.cls ≠ "java/lang/invoke/MethodHandle" ∧ y.cls ≠ "java/lang/invoke/VarHandle") (eT : T.heap = h) {g : JFrame} (hg : g.method = m) (hsize : g.locals.size = c.maxLocals) (hlen : ∀ sig, parseMethodDescriptor y.desc = some sig → argsL.length = sig.parameters.length) (hstack : g.stack = argsL.reverse ++ .ref b :: rest) {W : Nat} (hW : 2 * g.monitorRoom + (rest.map fun v => v.category).sum ≤ W)
    (hd : decode c.code g.pc = .ok (.invokespecial index, 3)) (hf : rm.frames + 1 ≤ R.frames) (hl : W + (maxL + 11) + rm.locals ≤ R.locals) (hc : cells + rm.cells ≤ R.cells) (hs : slots + rm.slots ≤ R.slots) :
    ∃ v T' L, Stand p l e R (s.setVm T'.vm) m args below meth c T' (locs ++ L) (cells + rm.cells) (slots + rm.slots) ∧ s.Since T'.vm T'.heap.size ∧ Z.Warmed39 T'.vm ∧ T'.vm.findClass own = some m.cls ∧ CHr Z EL vm0 h T'.vm T'.heap ∧ Q' v T'.heap L ∧ ∀ target, Steps p.tables e below (T'.setTop { g with pc := g.pc + 3, stack := v.toList ++ rest }) target → Steps p.tables e below (T.setTop g) target := by
  obtain ⟨v, _, ⟨T1, L1, k1, n1⟩, -, X1, hS1, hg1, ⟨Lc, hQ, l1, y1, z1, hC⟩, st⟩ := X.specialBackS hx (y := y) hi hown (mvT (s := s.setVm vm0) hZ w1) (mvT (s := s.setVm vm0) hZ w2) (mvT (s := s.setVm vm0) hZ w4) hy (backOfSH (s := s) (W := W) hM hZ w4 w3 hf hl hEL H) hg hsize (Steps.refl _) hlen hstack hW hd (fun _ _ => ⟨rfl, eT, hc, hs⟩)
  dsimp only [Pt.U, Pt.locs, Pt.cells, Pt.slots] at X1 hS1 hg1 l1 y1 z1 st hQ hC
  subst l1 y1 z1
  obtain ⟨X2, hS2, hZ2, ho2⟩ := rebS hS (by rw [eT]; exact hk) X1 hS1 hg1 hZ hown
  exact ⟨v, T1, Lc, X2, hS2, hZ2, ho2, hC, hQ, fun _ k => st.trans k⟩
theorem own_safeS {x : Addr} (hal : Z.vm.Alike vm) (E : Exa Z h x "java/lang/String") (F : Fld Z h x "java/lang/String" "value" "[B" .null) : Safe Z EL vm h x := fun B => by
  obtain ⟨p, hp, u, a, hb, q, hqa, G, hy⟩ := B
  obtain ⟨cS, ⟨⟨s1, s2, s3, ⟨cv, kv, iv, s4, s4'⟩, ⟨cc, kc, ic, s5, s5'⟩, s6, s7, s8, s9, s10, -⟩, hfS, hcS⟩, -, hB, -⟩ := G
  rcases hy with rfl | rfl
  · obtain ⟨cell, cf, k, i, f, h1, h2, -, -, -, -, h7⟩ := F
    have s1 : h[q.sa]? = some q.sC := s1
    cases h1.symm.trans s1
    obtain ⟨kz, z4⟩ := ff_back (U := Wst Z vm h) hal s4
    cases h2.symm.trans z4
    cases h7.symm.trans s8
  · obtain ⟨cell, k, h1, h2, -⟩ := E
    have s10 : h[q.sd]? = some q.SA := s10
    cases h1.symm.trans s10
    have hB : vm.findClass "[B" = some q.SA.cls := hB
    rw [hal.findClass] at hB
    obtain ⟨k1, a1, a2⟩ := Vm.findClass_spec h2
    obtain ⟨k2, b1, b2⟩ := Vm.findClass_spec hB
    cases a1.symm.trans b1
    exact absurd (a2.symm.trans b2) (by decide)
theorem own_safeV {x : Addr} {k : ClassId} {ty : FieldType} {z : Int32} {vs : List Value} {dv : Value} (hal : Z.vm.Alike vm) (V : Arv Z h x k ty z vs dv) (ht : ty ≠ .byte) : Safe Z EL vm h x := by
  obtain ⟨cl, A, -⟩ := V
  exact Safe.arr hal A ht
end OwnKitW
theorem own_EW {Z : State} {a0 : Array Value} (hw : ∀ d ∈ tables_1, d.before a0 Z = true) : EW Z a0 consts_1 := EW.cons (hw _ (List.mem_of_getElem? (i := 24) rfl)) (by decide +kernel) (EW.nil)
theorem own_sA {Z : State} {a0 : Array Value} (hw : ∀ d ∈ tables_1, d.before a0 Z = true) : ∀ d ∈ Bundle.stringAtoms, d.before a0 Z = true := fun d hd => hw d ((by decide +kernel : ∀ d ∈ Bundle.stringAtoms, d ∈ tables_1) d hd)
def own_S (Z : State) (z_COMPACT_STRINGS : Int32) : Prop := (Sta Z Z.heap "java/lang/String" "COMPACT_STRINGS" "Z" (.int z_COMPACT_STRINGS)) ∧
  (¬ z_COMPACT_STRINGS = (0 : Int32))

def own_c0 (x : Int32) : Int32 := (((x.toUInt32 >>> ((2 : Int32) &&& 31).toUInt32).toInt32) &&& (255 : Int32))
def own_c1 (x : Int32) : Int32 := (((x.toUInt32 >>> ((10 : Int32) &&& 31).toUInt32).toInt32) &&& (255 : Int32))
def own_len3 (x : Int32) : Int32 := (x &&& (3 : Int32)) % (3 : Int32)
def own_cs (x : Int32) : List Int32 := if own_len3 x = 0 then [] else if own_len3 x = 1 then [own_c0 x] else [own_c0 x, own_c1 x]
def own_same (x y : Int32) : Int32 := if own_cs x = own_cs y then 1 else 0
theorem own_l3 (x : Int32) : own_len3 x = (0 : Int32) ∨ own_len3 x = (1 : Int32) ∨ own_len3 x = (2 : Int32) := by
  have h1 := c_and x 3 (by decide)
  have h2 := (c_irem (x &&& 3) 3 3 rfl).1 h1.1
  have h3 : (own_len3 x).toInt = 0 ∨ (own_len3 x).toInt = 1 ∨ (own_len3 x).toInt = 2 := by unfold own_len3; omega
  rcases h3 with q | q | q
  · exact Or.inl (Int32.toInt_inj.mp (q.trans rfl))
  · exact Or.inr (Or.inl (Int32.toInt_inj.mp (q.trans rfl)))
  · exact Or.inr (Or.inr (Int32.toInt_inj.mp (q.trans rfl)))
theorem own_cs0 {x : Int32} (q : own_len3 x = 0) : own_cs x = [] := by simp [own_cs, q]
theorem own_cs1 {x : Int32} (q : own_len3 x = 1) : own_cs x = [own_c0 x] := by simp [own_cs, q]
theorem own_cs2 {x : Int32} (q : own_len3 x = 2) : own_cs x = [own_c0 x, own_c1 x] := by simp [own_cs, q]
theorem own_csb (x : Int32) : ∀ c ∈ own_cs x, ¬ c < 0 ∧ ¬ (255 : Int32) < c := by
  intro c hc
  rcases own_l3 x with q | q | q
  · rw [own_cs0 q] at hc; cases hc
  · rw [own_cs1 q] at hc; simp only [List.mem_cons, List.not_mem_nil, or_false] at hc; subst hc; exact own_p255 _
  · rw [own_cs2 q] at hc; simp only [List.mem_cons, List.not_mem_nil, or_false] at hc; rcases hc with rfl | rfl <;> exact own_p255 _
theorem own_csl (x : Int32) : (own_cs x).length ≤ 4000 := by
  rcases own_l3 x with q | q | q
  · rw [own_cs0 q]; decide
  · rw [own_cs1 q]; show 1 ≤ 4000; decide
  · rw [own_cs2 q]; show 2 ≤ 4000; decide
theorem own_same0 {x y : Int32} (q : own_same x y = 0) : ¬ own_cs x = own_cs y := fun r => by simp [own_same, r] at q
theorem own_same1 {x y : Int32} (q : ¬ own_same x y = 0) : own_cs x = own_cs y := by
  by_cases r : own_cs x = own_cs y
  · exact r
  · exact absurd (by simp [own_same, r]) q
theorem own_up {c : Int32} (q : ¬ c < 0 ∧ ¬ (255 : Int32) < c) : ¬ c < 0 ∧ ¬ (65535 : Int32) < c := by
  refine ⟨q.1, ?_⟩
  have h := q.2
  rw [Int32.lt_iff_toInt_lt] at h ⊢
  have e1 : (255 : Int32).toInt = 255 := by decide
  have e2 : (65535 : Int32).toInt = 65535 := by decide
  omega
theorem own_nb {z : Int32} (q : z = 0 ∨ z = 1) : narrow .boolean (.int z) = .int z := by rcases q with rfl | rfl <;> rfl
theorem own_fb {z : Int32} (q : z = 0 ∨ z = 1) : fits .boolean (.int z) = true := by rcases q with rfl | rfl <;> rfl
theorem own_nc0 (x : Int32) : nar .char (own_c0 x) = own_c0 x := i2c_mask _
theorem own_nc1 (x : Int32) : nar .char (own_c1 x) = own_c1 x := i2c_mask _
theorem own_narc0 (x : Int32) : narrow .char (.int (own_c0 x)) = .int (own_c0 x) := by
  have q := XT.narrow_c ((x.toUInt32 >>> ((2 : Int32) &&& 31).toUInt32).toInt32 &&& (255 : Int32))
  rw [i2c_mask] at q; exact q
theorem own_narc1 (x : Int32) : narrow .char (.int (own_c1 x)) = .int (own_c1 x) := by
  have q := XT.narrow_c ((x.toUInt32 >>> ((10 : Int32) &&& 31).toUInt32).toInt32 &&& (255 : Int32))
  rw [i2c_mask] at q; exact q
theorem d2_0 : decode method_2_code 0 = .ok (.iload_n 0, 1) := by decide +kernel
theorem d2_1 : decode method_2_code 1 = .ok (.iconst 3, 1) := by decide +kernel
theorem d2_2 : decode method_2_code 2 = .ok (.iand, 1) := by decide +kernel
theorem d2_3 : decode method_2_code 3 = .ok (.iconst 3, 1) := by decide +kernel
theorem d2_4 : decode method_2_code 4 = .ok (.irem, 1) := by decide +kernel
theorem d2_5 : decode method_2_code 5 = .ok (.ireturn, 1) := by decide +kernel
theorem own_pn_2 : plainFor (⟨"com/example/usher/usher/FoundGoesOnPinLaw", "len", "(I)I"⟩ : MethodName) = true := plainFor_of_name (show plainName "com/example/usher/usher/FoundGoesOnPinLaw" = true by first | (simp [plainName, overriddenIn]; done) | decide +kernel)
theorem own_ef_rm_len (m : MethodId) (p1 : Int32) : entryFrame m #[(.int p1)] 1 = mkF m 0 #[.val (.int p1)] [] := by first | (simp [entryFrame, mkF, argsToLocals, Value.category]; done) | rfl
set_option maxRecDepth 65536 in
set_option maxHeartbeats 40000000 in
theorem rm_len (l : Launch) (Z : State) (a0 : Array Value) (hw : ∀ d ∈ tables_1, d.before a0 Z = true) (p1 : Int32) (h0 : Heap) (n0 : Nat) (O0 : Old Z n0 h0)  :
    own_Met l Z (⟨"com/example/usher/usher/FoundGoesOnPinLaw", "len", "(I)I"⟩ : MethodName) method_2_code 1 (some .int) [] ({ frames := 0, cells := 0, slots := 0, locals := 0 } : Room) #[(.int p1)] h0 (fun v h L => v = some (.int (own_len3 p1)) ∧ Fr n0 L ∧ h = h0) := by
  refine own_body own_pn_2 ?_
  intro p e s m below meth c s₁ hx hby hml hown hnm hret hlk X0 hZ e0
  replace hown : s.vm.findClass "com/example/usher/usher/FoundGoesOnPinLaw" = some m.cls := hown
  have N0 := Fr.nil n0
  have K0 := Keep.refl h0 []
  refine own_st (fun _ k => castTop (own_ef_rm_len m p1) k) ?_
  show own_go _ _ _ _ _ _ _ (s₁.setTop (mkF m 0 #[.val (.int p1)] []))
  refine own_st (fun _ k => XS.iloadN X0.here hx rfl (hb hby d2_0) rfl k) ?_
  show own_go _ _ _ _ _ _ _ (s₁.setTop (mkF m 1 #[.val (.int p1)] [(.int p1)]))
  refine own_st (fun _ k => XS.iconst X0.here hx rfl (hb hby d2_1) k) ?_
  show own_go _ _ _ _ _ _ _ (s₁.setTop (mkF m 2 #[.val (.int p1)] [(.int (3 : Int32)), (.int p1)]))
  refine own_st (fun _ k => XS.iand X0.here hx rfl (hb hby d2_2) rfl k) ?_
  show own_go _ _ _ _ _ _ _ (s₁.setTop (mkF m 3 #[.val (.int p1)] [(.int (p1 &&& (3 : Int32)))]))
  refine own_st (fun _ k => XS.iconst X0.here hx rfl (hb hby d2_3) k) ?_
  show own_go _ _ _ _ _ _ _ (s₁.setTop (mkF m 4 #[.val (.int p1)] [(.int (3 : Int32)), (.int (p1 &&& (3 : Int32)))]))
  refine own_st (fun _ k => iremM (g := (mkF m 4 #[.val (.int p1)] [(.int (3 : Int32)), (.int (p1 &&& (3 : Int32)))])) X0 hx rfl (hb hby d2_4) rfl (by decide) k) ?_
  show own_go _ _ _ _ _ _ _ (s₁.setTop (mkF m 5 #[.val (.int p1)] [(.int ((p1 &&& (3 : Int32)) % (3 : Int32)))]))
  exact own_retI X0 hx hlk hret (hb hby d2_5) (by decide) (by decide) (⟨rfl, N0, e0⟩)
theorem d8_0 : decode method_3_code 0 = .ok (.iload_n 0, 1) := by decide +kernel
theorem d8_1 : decode method_3_code 1 = .ok (.iconst 2, 1) := by decide +kernel
theorem d8_2 : decode method_3_code 2 = .ok (.iushr, 1) := by decide +kernel
theorem d8_3 : decode method_3_code 3 = .ok (.sipush 255, 3) := by decide +kernel
theorem d8_6 : decode method_3_code 6 = .ok (.iand, 1) := by decide +kernel
theorem d8_7 : decode method_3_code 7 = .ok (.i2c, 1) := by decide +kernel
theorem d8_8 : decode method_3_code 8 = .ok (.ireturn, 1) := by decide +kernel
theorem own_pn_8 : plainFor (⟨"com/example/usher/usher/FoundGoesOnPinLaw", "c0", "(I)C"⟩ : MethodName) = true := plainFor_of_name (show plainName "com/example/usher/usher/FoundGoesOnPinLaw" = true by first | (simp [plainName, overriddenIn]; done) | decide +kernel)
theorem own_ef_rm_c0 (m : MethodId) (p1 : Int32) : entryFrame m #[(.int p1)] 1 = mkF m 0 #[.val (.int p1)] [] := by first | (simp [entryFrame, mkF, argsToLocals, Value.category]; done) | rfl
set_option maxRecDepth 65536 in
set_option maxHeartbeats 40000000 in
theorem rm_c0 (l : Launch) (Z : State) (a0 : Array Value) (hw : ∀ d ∈ tables_1, d.before a0 Z = true) (p1 : Int32) (h0 : Heap) (n0 : Nat) (O0 : Old Z n0 h0)  :
    own_Met l Z (⟨"com/example/usher/usher/FoundGoesOnPinLaw", "c0", "(I)C"⟩ : MethodName) method_3_code 1 (some .char) [] ({ frames := 0, cells := 0, slots := 0, locals := 0 } : Room) #[(.int p1)] h0 (fun v h L => v = some (.int (own_c0 p1)) ∧ Fr n0 L ∧ h = h0) := by
  refine own_body own_pn_8 ?_
  intro p e s m below meth c s₁ hx hby hml hown hnm hret hlk X0 hZ e0
  replace hown : s.vm.findClass "com/example/usher/usher/FoundGoesOnPinLaw" = some m.cls := hown
  have N0 := Fr.nil n0
  have K0 := Keep.refl h0 []
  refine own_st (fun _ k => castTop (own_ef_rm_c0 m p1) k) ?_
  show own_go _ _ _ _ _ _ _ (s₁.setTop (mkF m 0 #[.val (.int p1)] []))
  refine own_st (fun _ k => XS.iloadN X0.here hx rfl (hb hby d8_0) rfl k) ?_
  show own_go _ _ _ _ _ _ _ (s₁.setTop (mkF m 1 #[.val (.int p1)] [(.int p1)]))
  refine own_st (fun _ k => XS.iconst X0.here hx rfl (hb hby d8_1) k) ?_
  show own_go _ _ _ _ _ _ _ (s₁.setTop (mkF m 2 #[.val (.int p1)] [(.int (2 : Int32)), (.int p1)]))
  refine own_st (fun _ k => XS.iushr X0.here hx rfl (hb hby d8_2) rfl k) ?_
  show own_go _ _ _ _ _ _ _ (s₁.setTop (mkF m 3 #[.val (.int p1)] [(.int ((p1.toUInt32 >>> ((2 : Int32) &&& 31).toUInt32).toInt32))]))
  refine own_st (fun _ k => XS.sipush X0.here hx rfl (hb hby d8_3) k) ?_
  show own_go _ _ _ _ _ _ _ (s₁.setTop (mkF m 6 #[.val (.int p1)] [(.int (255 : Int32)), (.int ((p1.toUInt32 >>> ((2 : Int32) &&& 31).toUInt32).toInt32))]))
  refine own_st (fun _ k => XS.iand X0.here hx rfl (hb hby d8_6) rfl k) ?_
  show own_go _ _ _ _ _ _ _ (s₁.setTop (mkF m 7 #[.val (.int p1)] [(.int (((p1.toUInt32 >>> ((2 : Int32) &&& 31).toUInt32).toInt32) &&& (255 : Int32)))]))
  refine own_st (fun _ k => XS.i2c X0.here hx rfl (hb hby d8_7) rfl k) ?_
  show own_go _ _ _ _ _ _ _ (s₁.setTop (mkF m 8 #[.val (.int p1)] [(.int ((((p1.toUInt32 >>> ((2 : Int32) &&& 31).toUInt32).toInt32) &&& (255 : Int32)).toUInt32.toUInt16.toUInt32.toInt32))]))
  rw [i2c_mask]
  show own_go _ _ _ _ _ _ _ (s₁.setTop (mkF m 8 #[.val (.int p1)] [(.int (own_c0 p1))]))
  exact own_retN X0 hx hlk (t := .char) hret (by simp) (own_narc0 p1) (hb hby d8_8) (by decide) (by decide) (⟨rfl, N0, e0⟩)
theorem d9_0 : decode method_4_code 0 = .ok (.iload_n 0, 1) := by decide +kernel
theorem d9_1 : decode method_4_code 1 = .ok (.bipush 10, 2) := by decide +kernel
theorem d9_3 : decode method_4_code 3 = .ok (.iushr, 1) := by decide +kernel
theorem d9_4 : decode method_4_code 4 = .ok (.sipush 255, 3) := by decide +kernel
theorem d9_7 : decode method_4_code 7 = .ok (.iand, 1) := by decide +kernel
theorem d9_8 : decode method_4_code 8 = .ok (.i2c, 1) := by decide +kernel
theorem d9_9 : decode method_4_code 9 = .ok (.ireturn, 1) := by decide +kernel
theorem own_pn_9 : plainFor (⟨"com/example/usher/usher/FoundGoesOnPinLaw", "c1", "(I)C"⟩ : MethodName) = true := plainFor_of_name (show plainName "com/example/usher/usher/FoundGoesOnPinLaw" = true by first | (simp [plainName, overriddenIn]; done) | decide +kernel)
theorem own_ef_rm_c1 (m : MethodId) (p1 : Int32) : entryFrame m #[(.int p1)] 1 = mkF m 0 #[.val (.int p1)] [] := by first | (simp [entryFrame, mkF, argsToLocals, Value.category]; done) | rfl
set_option maxRecDepth 65536 in
set_option maxHeartbeats 40000000 in
theorem rm_c1 (l : Launch) (Z : State) (a0 : Array Value) (hw : ∀ d ∈ tables_1, d.before a0 Z = true) (p1 : Int32) (h0 : Heap) (n0 : Nat) (O0 : Old Z n0 h0)  :
    own_Met l Z (⟨"com/example/usher/usher/FoundGoesOnPinLaw", "c1", "(I)C"⟩ : MethodName) method_4_code 1 (some .char) [] ({ frames := 0, cells := 0, slots := 0, locals := 0 } : Room) #[(.int p1)] h0 (fun v h L => v = some (.int (own_c1 p1)) ∧ Fr n0 L ∧ h = h0) := by
  refine own_body own_pn_9 ?_
  intro p e s m below meth c s₁ hx hby hml hown hnm hret hlk X0 hZ e0
  replace hown : s.vm.findClass "com/example/usher/usher/FoundGoesOnPinLaw" = some m.cls := hown
  have N0 := Fr.nil n0
  have K0 := Keep.refl h0 []
  refine own_st (fun _ k => castTop (own_ef_rm_c1 m p1) k) ?_
  show own_go _ _ _ _ _ _ _ (s₁.setTop (mkF m 0 #[.val (.int p1)] []))
  refine own_st (fun _ k => XS.iloadN X0.here hx rfl (hb hby d9_0) rfl k) ?_
  show own_go _ _ _ _ _ _ _ (s₁.setTop (mkF m 1 #[.val (.int p1)] [(.int p1)]))
  refine own_st (fun _ k => XS.bipush X0.here hx rfl (hb hby d9_1) k) ?_
  show own_go _ _ _ _ _ _ _ (s₁.setTop (mkF m 3 #[.val (.int p1)] [(.int (10 : Int32)), (.int p1)]))
  refine own_st (fun _ k => XS.iushr X0.here hx rfl (hb hby d9_3) rfl k) ?_
  show own_go _ _ _ _ _ _ _ (s₁.setTop (mkF m 4 #[.val (.int p1)] [(.int ((p1.toUInt32 >>> ((10 : Int32) &&& 31).toUInt32).toInt32))]))
  refine own_st (fun _ k => XS.sipush X0.here hx rfl (hb hby d9_4) k) ?_
  show own_go _ _ _ _ _ _ _ (s₁.setTop (mkF m 7 #[.val (.int p1)] [(.int (255 : Int32)), (.int ((p1.toUInt32 >>> ((10 : Int32) &&& 31).toUInt32).toInt32))]))
  refine own_st (fun _ k => XS.iand X0.here hx rfl (hb hby d9_7) rfl k) ?_
  show own_go _ _ _ _ _ _ _ (s₁.setTop (mkF m 8 #[.val (.int p1)] [(.int (((p1.toUInt32 >>> ((10 : Int32) &&& 31).toUInt32).toInt32) &&& (255 : Int32)))]))
  refine own_st (fun _ k => XS.i2c X0.here hx rfl (hb hby d9_8) rfl k) ?_
  show own_go _ _ _ _ _ _ _ (s₁.setTop (mkF m 9 #[.val (.int p1)] [(.int ((((p1.toUInt32 >>> ((10 : Int32) &&& 31).toUInt32).toInt32) &&& (255 : Int32)).toUInt32.toUInt16.toUInt32.toInt32))]))
  rw [i2c_mask]
  show own_go _ _ _ _ _ _ _ (s₁.setTop (mkF m 9 #[.val (.int p1)] [(.int (own_c1 p1))]))
  exact own_retN X0 hx hlk (t := .char) hret (by simp) (own_narc1 p1) (hb hby d9_9) (by decide) (by decide) (⟨rfl, N0, e0⟩)
theorem d4_0 : decode jdk_42_method_149_code 0 = .ok (.aload_n 0, 1) := by decide +kernel
theorem d4_1 : decode jdk_42_method_149_code 1 = .ok (.invokespecial 1, 3) := by decide +kernel
theorem d4_4 : decode jdk_42_method_149_code 4 = .ok (.iload_n 3, 1) := by decide +kernel
theorem d4_5 : decode jdk_42_method_149_code 5 = .ok (.ifCond .ne 22, 3) := by decide +kernel
theorem d4_8 : decode jdk_42_method_149_code 8 = .ok (.aload_n 0, 1) := by decide +kernel
theorem d4_9 : decode jdk_42_method_149_code 9 = .ok (.ldc 7, 2) := by decide +kernel
theorem d4_11 : decode jdk_42_method_149_code 11 = .ok (.getfield 9, 3) := by decide +kernel
theorem d4_14 : decode jdk_42_method_149_code 14 = .ok (.putfield 9, 3) := by decide +kernel
theorem d4_17 : decode jdk_42_method_149_code 17 = .ok (.aload_n 0, 1) := by decide +kernel
theorem d4_18 : decode jdk_42_method_149_code 18 = .ok (.ldc 7, 2) := by decide +kernel
theorem d4_20 : decode jdk_42_method_149_code 20 = .ok (.getfield 15, 3) := by decide +kernel
theorem d4_23 : decode jdk_42_method_149_code 23 = .ok (.putfield 15, 3) := by decide +kernel
theorem d4_26 : decode jdk_42_method_149_code 26 = .ok (.return_, 1) := by decide +kernel
theorem own_pn_4 : plainFor (⟨"java/lang/String", "<init>", "([CIILjava/lang/Void;)V"⟩ : MethodName) = true := plainFor_of_name (show plainName "java/lang/String" = true by first | (simp [plainName, overriddenIn]; done) | decide +kernel)
theorem own_ef_rm_s4 (m : MethodId) (a1 : Addr) (a2 : Addr) : entryFrame m #[(.ref a1), (.ref a2), (.int (0 : Int32)), (.int (0 : Int32)), .null] 6 = mkF m 0 #[.val (.ref a1), .val (.ref a2), .val (.int (0 : Int32)), .val (.int (0 : Int32)), .val .null, .unset] [] := by first | (simp [entryFrame, mkF, argsToLocals, Value.category]; done) | rfl
set_option maxRecDepth 65536 in
set_option maxHeartbeats 40000000 in
theorem rm_s4 (l : Launch) (Z : State) (a0 : Array Value) (hw : ∀ d ∈ tables_1, d.before a0 Z = true) (a1 a2 : Addr) (h0 : Heap) (n0 : Nat) (O0 : Old Z n0 h0) (ge_a1 : n0 ≤ a1) (E_a1 : Exa Z h0 a1 "java/lang/String") (F_a1_value : Fld Z h0 a1 "java/lang/String" "value" "[B" .null) (F_a1_coder : Fld Z h0 a1 "java/lang/String" "coder" "B" (.int (0 : Int32))) :
    own_MetW l Z consts_1 (⟨"java/lang/String", "<init>", "([CIILjava/lang/Void;)V"⟩ : MethodName) jdk_42_method_149_code 6 none [] ({ frames := 1, cells := 4, slots := 8, locals := 12 } : Room) #[(.ref a1), (.ref a2), (.int (0 : Int32)), (.int (0 : Int32)), .null] h0 (fun v h L => v = none ∧ Fr n0 L ∧ Keep h0 h [a1] ∧ ∃ t k, Fld Z h a1 "java/lang/String" "coder" "B" (.int (0 : Int32)) ∧ Fld Z h a1 "java/lang/String" "value" "[B" (.ref t) ∧ Arv Z h t k .byte 0 [] (.int (0 : Int32))) := by
  refine own_bodyW own_pn_4 ?_
  intro p e s m below meth c s₁ hx hby hml hown hnm hret hlk X0 hZ e0 C0 hS0
  have hk0 : h0.size ≤ h0.size := Nat.le_refl _
  have hEL := own_EW hw
  have wS := own_sA hw
  replace hown : s.vm.findClass "java/lang/String" = some m.cls := hown
  have N0 := Fr.nil n0
  have K0 := Keep.refl h0 [a1]
  refine own_stW (fun _ k => castTop (own_ef_rm_s4 m a1 a2) k) ?_
  show own_goW _ _ _ _ _ _ _ _ _ _ (s₁.setTop (mkF m 0 #[.val (.ref a1), .val (.ref a2), .val (.int (0 : Int32)), .val (.int (0 : Int32)), .val .null, .unset] []))
  refine own_stW (fun _ k => XS.aloadN X0.here hx rfl (hb hby d4_0) rfl rfl k) ?_
  show own_goW _ _ _ _ _ _ _ _ _ _ (s₁.setTop (mkF m 1 #[.val (.ref a1), .val (.ref a2), .val (.int (0 : Int32)), .val (.int (0 : Int32)), .val .null, .unset] [(.ref a1)]))
  obtain ⟨T2, X2, e2, st2⟩ := initO X0 hx hZ hown (hw _ (List.mem_of_getElem? (i := 21) rfl)) (hw _ (List.mem_of_getElem? (i := 22) rfl)) (hw _ (List.mem_of_getElem? (i := 23) rfl)) e0 (g := (mkF m 1 #[.val (.ref a1), .val (.ref a2), .val (.int (0 : Int32)), .val (.int (0 : Int32)), .val .null, .unset] [(.ref a1)])) rfl (by rw [hml]; rfl) rfl (hb hby d4_1) (by decide) (W := 0) (by show 2 * 0 + _ ≤ _; exact Nat.le_of_eq rfl) (by decide)
  refine own_stW st2 ?_
  show own_goW _ _ _ _ _ _ _ _ _ _ (T2.setTop (mkF m 4 #[.val (.ref a1), .val (.ref a2), .val (.int (0 : Int32)), .val (.int (0 : Int32)), .val .null, .unset] []))
  refine own_stW (fun _ k => XS.iloadN X2.here hx rfl (hb hby d4_4) rfl k) ?_
  show own_goW _ _ _ _ _ _ _ _ _ _ (T2.setTop (mkF m 5 #[.val (.ref a1), .val (.ref a2), .val (.int (0 : Int32)), .val (.int (0 : Int32)), .val .null, .unset] [(.int (0 : Int32))]))
  refine own_stW (fun _ k => XS.ifNo X2.here hx rfl (hb hby d4_5) rfl (by decide) k) ?_
  show own_goW _ _ _ _ _ _ _ _ _ _ (T2.setTop (mkF m 8 #[.val (.ref a1), .val (.ref a2), .val (.int (0 : Int32)), .val (.int (0 : Int32)), .val .null, .unset] []))
  refine own_stW (fun _ k => XS.aloadN X2.here hx rfl (hb hby d4_8) rfl rfl k) ?_
  show own_goW _ _ _ _ _ _ _ _ _ _ (T2.setTop (mkF m 9 #[.val (.ref a1), .val (.ref a2), .val (.int (0 : Int32)), .val (.int (0 : Int32)), .val .null, .unset] [(.ref a1)]))
  obtain ⟨b3, T3, h3, k3, d3, kd3, X3, e3, E3, hS3, hk3, hZ3, hown3, A3, Cd3, U3, V3, lta3, ltb3, CH3, Li3, sfe3, st3⟩ := ldcCH X2 hx hZ hown (hw _ (List.mem_of_getElem? (i := 24) rfl)) wS e2 hS0 hk0 hEL (by decide) C0.1 (vs := []) (z := (0 : Int32)) ⟨by decide +kernel, by decide +kernel⟩ (by decide) (by decide) (g := (mkF m 9 #[.val (.ref a1), .val (.ref a2), .val (.int (0 : Int32)), .val (.int (0 : Int32)), .val .null, .unset] [(.ref a1)])) rfl (hb hby d4_9) (n := 0) (by decide +kernel) (by decide) (by decide) (by decide)
  have O3 := O0.ext E3
  have K3 := K0.ext E3
  have C3 := C0.trans CH3
  have f5 := (E_a1.ext E3)
  have f6 := (F_a1_value.ext E3)
  have ne4 := sfe3 a1 (own_safeS hZ3.alike f5 f6)
  refine own_stW st3 ?_
  show own_goW _ _ _ _ _ _ _ _ _ _ (T3.setTop (mkF m 11 #[.val (.ref a1), .val (.ref a2), .val (.int (0 : Int32)), .val (.int (0 : Int32)), .val .null, .unset] [(.ref b3), (.ref a1)]))
  obtain ⟨T7, X7, e7, st7⟩ := getF X3 hx hZ3 hown3 (host := "") (Or.inl (hw _ (List.mem_of_getElem? (i := 30) rfl))) Via.refl e3 U3 (g := (mkF m 11 #[.val (.ref a1), .val (.ref a2), .val (.int (0 : Int32)), .val (.int (0 : Int32)), .val .null, .unset] [(.ref b3), (.ref a1)])) rfl rfl (hb hby d4_11)
  refine own_stW st7 ?_
  show own_goW _ _ _ _ _ _ _ _ _ _ (T7.setTop (mkF m 14 #[.val (.ref a1), .val (.ref a2), .val (.int (0 : Int32)), .val (.int (0 : Int32)), .val .null, .unset] [(.ref d3), (.ref a1)]))
  obtain ⟨T8, h8, X8, e8, W8, st8⟩ := putF X7 hx hZ3 hown3 (host := "") (Or.inl (hw _ (List.mem_of_getElem? (i := 30) rfl))) Via.refl e7 f6 f5 (Or.inr ⟨(hw _ (List.mem_of_getElem? (i := 26) rfl)), rfl, hnm⟩) (hw _ (List.mem_of_getElem? (i := 11) rfl)) (ty := (.array .byte)) (by decide) rfl rfl (g := (mkF m 14 #[.val (.ref a1), .val (.ref a2), .val (.int (0 : Int32)), .val (.int (0 : Int32)), .val .null, .unset] [(.ref d3), (.ref a1)])) rfl rfl (hb hby d4_14)
  have N8 := Fr.snoc X8 N0 ge_a1
  have sf9 : Safe Z consts_1 T3.vm h3 a1 := (own_safeS hZ3.alike f5 f6)
  have Cw9 := C3.trans (CHr.wr W8 sf9 C3.1)
  have hkw9 := Nat.le_trans hk3 (Keep.of_wr W8).1
  have O9 := O3.wr W8 ge_a1
  have K9 := K3.wr W8 (Or.inl (List.mem_of_getElem? (i := 0) rfl))
  have sg9 := Safe.wr W8 sf9 C3.1 sf9
  have F8 := f6.same W8
  refine own_stW st8 ?_
  show own_goW _ _ _ _ _ _ _ _ _ _ (T8.setTop (mkF m 17 #[.val (.ref a1), .val (.ref a2), .val (.int (0 : Int32)), .val (.int (0 : Int32)), .val .null, .unset] []))
  refine own_stW (fun _ k => XS.aloadN X8.here hx rfl (hb hby d4_17) rfl rfl k) ?_
  show own_goW _ _ _ _ _ _ _ _ _ _ (T8.setTop (mkF m 18 #[.val (.ref a1), .val (.ref a2), .val (.int (0 : Int32)), .val (.int (0 : Int32)), .val .null, .unset] [(.ref a1)]))
  have f11 := (f5.wr W8)
  obtain ⟨b10, T10, h10, k10, d10, kd10, X10, e10, E10, hS10, hk10, hZ10, hown10, A10, Cd10, U10, V10, lta10, ltb10, CH10, Li10, sfe10, st10⟩ := ldcCH X8 hx hZ3 hown3 (hw _ (List.mem_of_getElem? (i := 24) rfl)) wS e8 hS3 hkw9 hEL (by decide) Cw9.1 (vs := []) (z := (0 : Int32)) ⟨by decide +kernel, by decide +kernel⟩ (by decide) (by decide) (g := (mkF m 18 #[.val (.ref a1), .val (.ref a2), .val (.int (0 : Int32)), .val (.int (0 : Int32)), .val .null, .unset] [(.ref a1)])) rfl (hb hby d4_18) (n := 0) (by decide +kernel) (by decide) (by decide) (by decide)
  have O10 := O9.ext E10
  have K10 := K9.ext E10
  have C10 := Cw9.trans CH10
  have f13 := (CH10.safe f11.lt sg9)
  have ne12 := sfe10 a1 f13
  refine own_stW st10 ?_
  show own_goW _ _ _ _ _ _ _ _ _ _ (T10.setTop (mkF m 20 #[.val (.ref a1), .val (.ref a2), .val (.int (0 : Int32)), .val (.int (0 : Int32)), .val .null, .unset] [(.ref b10), (.ref a1)]))
  obtain ⟨T14, X14, e14, st14⟩ := getF X10 hx hZ10 hown10 (host := "") (Or.inl (hw _ (List.mem_of_getElem? (i := 31) rfl))) Via.refl e10 Cd10 (g := (mkF m 20 #[.val (.ref a1), .val (.ref a2), .val (.int (0 : Int32)), .val (.int (0 : Int32)), .val .null, .unset] [(.ref b10), (.ref a1)])) rfl rfl (hb hby d4_20)
  refine own_stW st14 ?_
  show own_goW _ _ _ _ _ _ _ _ _ _ (T14.setTop (mkF m 23 #[.val (.ref a1), .val (.ref a2), .val (.int (0 : Int32)), .val (.int (0 : Int32)), .val .null, .unset] [(.int (0 : Int32)), (.ref a1)]))
  have f16 := (((F_a1_coder.ext E3).other W8 (Or.inr (slot_ne (Or.inr (hw _ (List.mem_of_getElem? (i := 27) rfl))) (Or.inr (hw _ (List.mem_of_getElem? (i := 26) rfl))) (by decide) (t := .byte) (t' := (.array .byte)) (by decide) (by decide)))).ext E10)
  have f17 := (f11.ext E10)
  obtain ⟨T15, h15, X15, e15, W15, st15⟩ := putF X14 hx hZ10 hown10 (host := "") (Or.inl (hw _ (List.mem_of_getElem? (i := 31) rfl))) Via.refl e14 f16 f17 (Or.inr ⟨(hw _ (List.mem_of_getElem? (i := 27) rfl)), rfl, hnm⟩) (hw _ (List.mem_of_getElem? (i := 11) rfl)) (ty := .byte) (by decide) rfl rfl (g := (mkF m 23 #[.val (.ref a1), .val (.ref a2), .val (.int (0 : Int32)), .val (.int (0 : Int32)), .val .null, .unset] [(.int (0 : Int32)), (.ref a1)])) rfl rfl (hb hby d4_23)
  have N15 := Fr.snoc X15 N8 ge_a1
  have sf18 : Safe Z consts_1 T10.vm h10 a1 := f13
  have Cw18 := C10.trans (CHr.wr W15 sf18 C10.1)
  have hkw18 := Nat.le_trans hk10 (Keep.of_wr W15).1
  have O18 := O10.wr W15 ge_a1
  have K18 := K10.wr W15 (Or.inl (List.mem_of_getElem? (i := 0) rfl))
  have sg18 := Safe.wr W15 sf18 C10.1 sf18
  have F15 := f16.same W15
  refine own_stW st15 ?_
  show own_goW _ _ _ _ _ _ _ _ _ _ (T15.setTop (mkF m 26 #[.val (.ref a1), .val (.ref a2), .val (.int (0 : Int32)), .val (.int (0 : Int32)), .val .null, .unset] []))
  have f19 := ((F8.ext E10).other W15 (Or.inr (slot_ne (Or.inr (hw _ (List.mem_of_getElem? (i := 26) rfl))) (Or.inr (hw _ (List.mem_of_getElem? (i := 27) rfl))) (by decide) (t := (.array .byte)) (t' := .byte) (by decide) (by decide))))
  have f20 := (((V3.other W8 (Ne.symm ne4.2)).ext E10).other W15 (Ne.symm ne4.2))
  exact own_ret0W X15 hx hlk hS10 hkw18 hZ10 hEL Cw18 e15 hret (hb hby d4_26) (by decide) (by decide) (by rw [e15]; exact ⟨rfl, N15, K18, _, _, F15, f19, f20⟩)
theorem d3_0 : decode jdk_42_method_3_code 0 = .ok (.aload_n 0, 1) := by decide +kernel
theorem d3_1 : decode jdk_42_method_3_code 1 = .ok (.aload_n 1, 1) := by decide +kernel
theorem d3_2 : decode jdk_42_method_3_code 2 = .ok (.iconst 0, 1) := by decide +kernel
theorem d3_3 : decode jdk_42_method_3_code 3 = .ok (.aload_n 1, 1) := by decide +kernel
theorem d3_4 : decode jdk_42_method_3_code 4 = .ok (.arraylength, 1) := by decide +kernel
theorem d3_5 : decode jdk_42_method_3_code 5 = .ok (.aconst_null, 1) := by decide +kernel
theorem d3_6 : decode jdk_42_method_3_code 6 = .ok (.invokespecial 27, 3) := by decide +kernel
theorem d3_9 : decode jdk_42_method_3_code 9 = .ok (.return_, 1) := by decide +kernel
theorem own_pn_3 : plainFor (⟨"java/lang/String", "<init>", "([C)V"⟩ : MethodName) = true := plainFor_of_name (show plainName "java/lang/String" = true by first | (simp [plainName, overriddenIn]; done) | decide +kernel)
theorem own_pd__28_5bCIILjava_2flang_2fVoid_3b_29V : parseMethodDescriptor "([CIILjava/lang/Void;)V" = some ⟨[(.array .char), .int, .int, (.object "java/lang/Void")], none⟩ := by decide +kernel
theorem own_ef_rm_s1 (m : MethodId) (a1 : Addr) (a2 : Addr) : entryFrame m #[(.ref a1), (.ref a2)] 2 = mkF m 0 #[.val (.ref a1), .val (.ref a2)] [] := by first | (simp [entryFrame, mkF, argsToLocals, Value.category]; done) | rfl
set_option maxRecDepth 65536 in
set_option maxHeartbeats 40000000 in
theorem rm_s1 (l : Launch) (Z : State) (a0 : Array Value) (hw : ∀ d ∈ tables_1, d.before a0 Z = true) (a1 a2 : Addr) (k2 : ClassId) (h0 : Heap) (n0 : Nat) (O0 : Old Z n0 h0) (ge_a1 : n0 ≤ a1) (E_a1 : Exa Z h0 a1 "java/lang/String") (F_a1_value : Fld Z h0 a1 "java/lang/String" "value" "[B" .null) (F_a1_coder : Fld Z h0 a1 "java/lang/String" "coder" "B" (.int (0 : Int32))) (V_a2 : Arv Z h0 a2 k2 .char 0 [] (.int (0 : Int32))) :
    own_MetW l Z consts_1 (⟨"java/lang/String", "<init>", "([C)V"⟩ : MethodName) jdk_42_method_3_code 2 none [] ({ frames := 2, cells := 4, slots := 8, locals := 31 } : Room) #[(.ref a1), (.ref a2)] h0 (fun v h L => v = none ∧ Fr n0 L ∧ Keep h0 h [a1] ∧ ∃ t k, Fld Z h a1 "java/lang/String" "coder" "B" (.int (0 : Int32)) ∧ Fld Z h a1 "java/lang/String" "value" "[B" (.ref t) ∧ Arv Z h t k .byte 0 [] (.int (0 : Int32))) := by
  refine own_bodyW own_pn_3 ?_
  intro p e s m below meth c s₁ hx hby hml hown hnm hret hlk X0 hZ e0 C0 hS0
  have hk0 : h0.size ≤ h0.size := Nat.le_refl _
  have hEL := own_EW hw
  have wS := own_sA hw
  replace hown : s.vm.findClass "java/lang/String" = some m.cls := hown
  have N0 := Fr.nil n0
  have K0 := Keep.refl h0 [a1]
  refine own_stW (fun _ k => castTop (own_ef_rm_s1 m a1 a2) k) ?_
  show own_goW _ _ _ _ _ _ _ _ _ _ (s₁.setTop (mkF m 0 #[.val (.ref a1), .val (.ref a2)] []))
  refine own_stW (fun _ k => XS.aloadN X0.here hx rfl (hb hby d3_0) rfl rfl k) ?_
  show own_goW _ _ _ _ _ _ _ _ _ _ (s₁.setTop (mkF m 1 #[.val (.ref a1), .val (.ref a2)] [(.ref a1)]))
  refine own_stW (fun _ k => XS.aloadN X0.here hx rfl (hb hby d3_1) rfl rfl k) ?_
  show own_goW _ _ _ _ _ _ _ _ _ _ (s₁.setTop (mkF m 2 #[.val (.ref a1), .val (.ref a2)] [(.ref a2), (.ref a1)]))
  refine own_stW (fun _ k => XS.iconst X0.here hx rfl (hb hby d3_2) k) ?_
  show own_goW _ _ _ _ _ _ _ _ _ _ (s₁.setTop (mkF m 3 #[.val (.ref a1), .val (.ref a2)] [(.int (0 : Int32)), (.ref a2), (.ref a1)]))
  refine own_stW (fun _ k => XS.aloadN X0.here hx rfl (hb hby d3_3) rfl rfl k) ?_
  show own_goW _ _ _ _ _ _ _ _ _ _ (s₁.setTop (mkF m 4 #[.val (.ref a1), .val (.ref a2)] [(.ref a2), (.int (0 : Int32)), (.ref a2), (.ref a1)]))
  refine own_stW (own_len X0 hx hZ e0 V_a2 (g := (mkF m 4 #[.val (.ref a1), .val (.ref a2)] [(.ref a2), (.int (0 : Int32)), (.ref a2), (.ref a1)])) rfl rfl (hb hby d3_4)) ?_
  show own_goW _ _ _ _ _ _ _ _ _ _ (s₁.setTop (mkF m 5 #[.val (.ref a1), .val (.ref a2)] [(.int (0 : Int32)), (.int (0 : Int32)), (.ref a2), (.ref a1)]))
  refine own_stW (fun _ k => XS.aconstNull X0.here hx rfl (hb hby d3_5) k) ?_
  show own_goW _ _ _ _ _ _ _ _ _ _ (s₁.setTop (mkF m 6 #[.val (.ref a1), .val (.ref a2)] [.null, (.int (0 : Int32)), (.int (0 : Int32)), (.ref a2), (.ref a1)]))
  obtain ⟨v21, T21, L21, X21, hS21, hZ21, hown21, CH21, hQ21, st21⟩ := own_callNW X0 hx hZ hS0 hk0 hEL C0.1 (argsL := [(.ref a2), (.int (0 : Int32)), (.int (0 : Int32)), .null]) (rest := []) (rm_s4 l Z a0 hw a1 a2 h0 n0 O0 ge_a1 E_a1 F_a1_value F_a1_coder) rfl hown (hw _ (List.mem_of_getElem? (i := 17) rfl)) (hw _ (List.mem_of_getElem? (i := 18) rfl)) (hw _ (List.mem_of_getElem? (i := 12) rfl)) (hw _ (List.mem_of_getElem? (i := 20) rfl)) (by decide) e0 (g := (mkF m 6 #[.val (.ref a1), .val (.ref a2)] [.null, (.int (0 : Int32)), (.int (0 : Int32)), (.ref a2), (.ref a1)])) rfl (by rw [hml]; rfl) (lenOf own_pd__28_5bCIILjava_2flang_2fVoid_3b_29V rfl) rfl (W := 0) (by show 2 * 0 + _ ≤ _; exact Nat.le_of_eq rfl) (hb hby d3_6) (by decide) (by decide) (by decide) (by decide)
  obtain ⟨rfl, Nq21, Kq21, t21, kt21, Fc21, Fv21, Vt21⟩ := hQ21
  have N21 := Fr.app N0 Nq21
  have O21 := O0.keep Kq21 (allS ge_a1 all0)
  have K21 := K0.trans Kq21 (allS (Or.inl (List.mem_of_getElem? (i := 0) rfl)) all0)
  have C21 := C0.trans CH21
  have hk21 := Nat.le_refl T21.heap.size
  refine own_stW st21 ?_
  show own_goW _ _ _ _ _ _ _ _ _ _ (T21.setTop (mkF m 9 #[.val (.ref a1), .val (.ref a2)] []))
  exact own_ret0W X21 hx hlk hS21 hk21 hZ21 hEL C21 rfl hret (hb hby d3_9) (by decide) (by decide) (⟨rfl, N21, K21, _, _, Fc21, Fv21, Vt21⟩)
theorem d1_0 : decode method_5_code 0 = .ok (.iload_n 0, 1) := by decide +kernel
theorem d1_1 : decode method_5_code 1 = .ok (.invokestatic 7, 3) := by decide +kernel
theorem d1_4 : decode method_5_code 4 = .ok (.istore_n 1, 1) := by decide +kernel
theorem d1_5 : decode method_5_code 5 = .ok (.iload_n 1, 1) := by decide +kernel
theorem d1_6 : decode method_5_code 6 = .ok (.ifCond .ne 14, 3) := by decide +kernel
theorem d1_9 : decode method_5_code 9 = .ok (.new 13, 3) := by decide +kernel
theorem d1_12 : decode method_5_code 12 = .ok (.dup, 1) := by decide +kernel
theorem d1_13 : decode method_5_code 13 = .ok (.iconst 0, 1) := by decide +kernel
theorem d1_14 : decode method_5_code 14 = .ok (.newarray .char, 2) := by decide +kernel
theorem d1_16 : decode method_5_code 16 = .ok (.invokespecial 15, 3) := by decide +kernel
theorem d1_19 : decode method_5_code 19 = .ok (.areturn, 1) := by decide +kernel
theorem d1_20 : decode method_5_code 20 = .ok (.iload_n 1, 1) := by decide +kernel
theorem d1_21 : decode method_5_code 21 = .ok (.iconst 1, 1) := by decide +kernel
theorem d1_22 : decode method_5_code 22 = .ok (.if_icmp .ne 21, 3) := by decide +kernel
theorem d1_25 : decode method_5_code 25 = .ok (.new 13, 3) := by decide +kernel
theorem d1_28 : decode method_5_code 28 = .ok (.dup, 1) := by decide +kernel
theorem d1_29 : decode method_5_code 29 = .ok (.iconst 1, 1) := by decide +kernel
theorem d1_30 : decode method_5_code 30 = .ok (.newarray .char, 2) := by decide +kernel
theorem d1_32 : decode method_5_code 32 = .ok (.dup, 1) := by decide +kernel
theorem d1_33 : decode method_5_code 33 = .ok (.iconst 0, 1) := by decide +kernel
theorem d1_34 : decode method_5_code 34 = .ok (.iload_n 0, 1) := by decide +kernel
theorem d1_35 : decode method_5_code 35 = .ok (.invokestatic 18, 3) := by decide +kernel
theorem d1_38 : decode method_5_code 38 = .ok (.castore, 1) := by decide +kernel
theorem d1_39 : decode method_5_code 39 = .ok (.invokespecial 15, 3) := by decide +kernel
theorem d1_42 : decode method_5_code 42 = .ok (.areturn, 1) := by decide +kernel
theorem d1_43 : decode method_5_code 43 = .ok (.new 13, 3) := by decide +kernel
theorem d1_46 : decode method_5_code 46 = .ok (.dup, 1) := by decide +kernel
theorem d1_47 : decode method_5_code 47 = .ok (.iconst 2, 1) := by decide +kernel
theorem d1_48 : decode method_5_code 48 = .ok (.newarray .char, 2) := by decide +kernel
theorem d1_50 : decode method_5_code 50 = .ok (.dup, 1) := by decide +kernel
theorem d1_51 : decode method_5_code 51 = .ok (.iconst 0, 1) := by decide +kernel
theorem d1_52 : decode method_5_code 52 = .ok (.iload_n 0, 1) := by decide +kernel
theorem d1_53 : decode method_5_code 53 = .ok (.invokestatic 18, 3) := by decide +kernel
theorem d1_56 : decode method_5_code 56 = .ok (.castore, 1) := by decide +kernel
theorem d1_57 : decode method_5_code 57 = .ok (.dup, 1) := by decide +kernel
theorem d1_58 : decode method_5_code 58 = .ok (.iconst 1, 1) := by decide +kernel
theorem d1_59 : decode method_5_code 59 = .ok (.iload_n 0, 1) := by decide +kernel
theorem d1_60 : decode method_5_code 60 = .ok (.invokestatic 22, 3) := by decide +kernel
theorem d1_63 : decode method_5_code 63 = .ok (.castore, 1) := by decide +kernel
theorem d1_64 : decode method_5_code 64 = .ok (.invokespecial 15, 3) := by decide +kernel
theorem d1_67 : decode method_5_code 67 = .ok (.areturn, 1) := by decide +kernel
theorem own_pn_1 : plainFor (⟨"com/example/usher/usher/FoundGoesOnPinLaw", "mk", "(I)Ljava/lang/String;"⟩ : MethodName) = true := plainFor_of_name (show plainName "com/example/usher/usher/FoundGoesOnPinLaw" = true by first | (simp [plainName, overriddenIn]; done) | decide +kernel)
theorem own_pd__28I_29I : parseMethodDescriptor "(I)I" = some ⟨[.int], some .int⟩ := by decide +kernel
theorem own_pd__28_5bC_29V : parseMethodDescriptor "([C)V" = some ⟨[(.array .char)], none⟩ := by decide +kernel
theorem own_pd__28I_29C : parseMethodDescriptor "(I)C" = some ⟨[.int], some .char⟩ := by decide +kernel
theorem own_ef_rm_mk (m : MethodId) (p1 : Int32) : entryFrame m #[(.int p1)] 2 = mkF m 0 #[.val (.int p1), .unset] [] := by first | (simp [entryFrame, mkF, argsToLocals, Value.category]; done) | rfl
set_option maxRecDepth 65536 in
set_option maxHeartbeats 40000000 in
theorem rm_mk (l : Launch) (Z : State) (a0 : Array Value) (hw : ∀ d ∈ tables_1, d.before a0 Z = true) (p1 : Int32) (z_COMPACT_STRINGS : Int32) (h0 : Heap) (n0 : Nat) (O0 : Old Z n0 h0) (hS : own_S Z z_COMPACT_STRINGS) :
    own_MetW l Z consts_1 (⟨"com/example/usher/usher/FoundGoesOnPinLaw", "mk", "(I)Ljava/lang/String;"⟩ : MethodName) method_5_code 2 (some (.object "java/lang/String")) [] ({ frames := 5, cells := 6, slots := 16, locals := 84 } : Room) #[(.int p1)] h0 (fun v h L => ∃ a, v = some (.ref a) ∧ Fr n0 L ∧ Keep h0 h [] ∧ h0.size ≤ a ∧ Exa Z h a "java/lang/String" ∧ Fld Z h a "java/lang/String" "coder" "B" (.int (0 : Int32)) ∧ ∃ t k, Fld Z h a "java/lang/String" "value" "[B" (.ref t) ∧ Arv Z h t k .byte (Int32.ofNat (own_cs p1).length) (((own_cs p1).map StrChars.lo8).map Value.int) (.int (0 : Int32))) := by
  refine own_bodyW own_pn_1 ?_
  intro p e s m below meth c s₁ hx hby hml hown hnm hret hlk X0 hZ e0 C0 hS0
  have hk0 : h0.size ≤ h0.size := Nat.le_refl _
  have hEL := own_EW hw
  have wS := own_sA hw
  replace hown : s.vm.findClass "com/example/usher/usher/FoundGoesOnPinLaw" = some m.cls := hown
  have N0 := Fr.nil n0
  have K0 := Keep.refl h0 []
  refine own_stW (fun _ k => castTop (own_ef_rm_mk m p1) k) ?_
  show own_goW _ _ _ _ _ _ _ _ _ _ (s₁.setTop (mkF m 0 #[.val (.int p1), .unset] []))
  refine own_stW (fun _ k => XS.iloadN X0.here hx rfl (hb hby d1_0) rfl k) ?_
  show own_goW _ _ _ _ _ _ _ _ _ _ (s₁.setTop (mkF m 1 #[.val (.int p1), .unset] [(.int p1)]))
  obtain ⟨v22, T22, L22, X22, hQ22, st22⟩ := own_callS X0 hx hZ (argsL := [(.int p1)]) (rest := []) (rm_len l Z a0 hw p1 h0 n0 O0) hown (hw _ (List.mem_of_getElem? (i := 7) rfl)) (hw _ (List.mem_of_getElem? (i := 8) rfl)) (hw _ (List.mem_of_getElem? (i := 5) rfl)) (hw _ (List.mem_of_getElem? (i := 9) rfl)) (by decide) e0 (g := (mkF m 1 #[.val (.int p1), .unset] [(.int p1)])) rfl (by rw [hml]; rfl) (lenOf own_pd__28I_29I rfl) rfl (W := 0) (by show 2 * 0 + _ ≤ _; exact Nat.le_of_eq rfl) (hb hby d1_1) (by decide) (by decide) (by decide) (by decide)
  obtain ⟨rfl, Nq22, eq22⟩ := hQ22
  have N22 := Fr.app N0 Nq22
  refine own_stW st22 ?_
  show own_goW _ _ _ _ _ _ _ _ _ _ (T22.setTop (mkF m 4 #[.val (.int p1), .unset] [(.int (own_len3 p1))]))
  rcases own_l3 p1 with q | q | q
  · skip
    rw [q]
    show own_goW _ _ _ _ _ _ _ _ _ _ (T22.setTop (mkF m 4 #[.val (.int p1), .unset] [(.int (0 : Int32))]))
    refine own_stW (fun _ k => XS.istoreN X22.here hx rfl (hb hby d1_4) rfl (l' := #[.val (.int p1), .val (.int (0 : Int32))]) rfl k) ?_
    show own_goW _ _ _ _ _ _ _ _ _ _ (T22.setTop (mkF m 5 #[.val (.int p1), .val (.int (0 : Int32))] []))
    refine own_stW (fun _ k => XS.iloadN X22.here hx rfl (hb hby d1_5) rfl k) ?_
    show own_goW _ _ _ _ _ _ _ _ _ _ (T22.setTop (mkF m 6 #[.val (.int p1), .val (.int (0 : Int32))] [(.int (0 : Int32))]))
    refine own_stW (fun _ k => XS.ifNo X22.here hx rfl (hb hby d1_6) rfl (by decide) k) ?_
    show own_goW _ _ _ _ _ _ _ _ _ _ (T22.setTop (mkF m 9 #[.val (.int p1), .val (.int (0 : Int32))] []))
    obtain ⟨T23, h23, X23, e23, E23, A23, D23, -, st23⟩ := newO X22 hx hZ hown (hw _ (List.mem_of_getElem? (i := 10) rfl)) (hw _ (List.mem_of_getElem? (i := 11) rfl)) (hw _ (List.mem_of_getElem? (i := 12) rfl)) eq22 (g := (mkF m 9 #[.val (.int p1), .val (.int (0 : Int32))] [])) rfl (hb hby d1_9) (by decide) (by decide)
    obtain ⟨b23, g23⟩ : ∃ z, z = h0.size := ⟨_, rfl⟩
    rw [← g23] at A23 D23 st23
    have ge_b23 : n0 ≤ b23 := by rw [g23]; exact own_osz O0
    have sz_b23 : h0.size ≤ b23 := by rw [g23]; exact K0.1
    have O23 := O0.ext E23
    have K23 := K0.ext E23
    have Ce23 := C0.trans (CHr.ext E23 C0.1)
    have hke23 := Nat.le_trans hk0 E23.1
    refine own_stW st23 ?_
    show own_goW _ _ _ _ _ _ _ _ _ _ (T23.setTop (mkF m 12 #[.val (.int p1), .val (.int (0 : Int32))] [(.ref b23)]))
    refine own_stW (fun _ k => XS.dup X23.here hx rfl (hb hby d1_12) rfl rfl k) ?_
    show own_goW _ _ _ _ _ _ _ _ _ _ (T23.setTop (mkF m 13 #[.val (.int p1), .val (.int (0 : Int32))] [(.ref b23), (.ref b23)]))
    refine own_stW (fun _ k => XS.iconst X23.here hx rfl (hb hby d1_13) k) ?_
    show own_goW _ _ _ _ _ _ _ _ _ _ (T23.setTop (mkF m 14 #[.val (.int p1), .val (.int (0 : Int32))] [(.int (0 : Int32)), (.ref b23), (.ref b23)]))
    obtain ⟨T24, h24, k24, b24, X24, e24, g24, E24, V24, st24⟩ := own_newP X23 hx hZ (aty := .char) (hw _ (List.mem_of_getElem? (i := 13) rfl)) e23 (g := (mkF m 14 #[.val (.int p1), .val (.int (0 : Int32))] [(.int (0 : Int32)), (.ref b23), (.ref b23)])) rfl (hb hby d1_14) rfl (by decide) (cap := 0) (by decide) (by decide) (by decide) (by decide)
    replace V24 : Arv Z h24 b24 k24 .char (0 : Int32) [] (.int (0 : Int32)) := V24
    have ge_b24 : n0 ≤ b24 := by rw [g24]; exact own_osz O23
    have sz_b24 : h0.size ≤ b24 := by rw [g24]; exact K23.1
    have ne_b23_b24 : b23 ≠ b24 := (fun q => absurd A23.lt (by rw [q, g24]; exact Nat.lt_irrefl _))
    have O24 := O23.ext E24
    have K24 := K23.ext E24
    have Ce24 := Ce23.trans (CHr.ext E24 Ce23.1)
    have hke24 := Nat.le_trans hke23 E24.1
    refine own_stW st24 ?_
    show own_goW _ _ _ _ _ _ _ _ _ _ (T24.setTop (mkF m 16 #[.val (.int p1), .val (.int (0 : Int32))] [(.ref b24), (.ref b23), (.ref b23)]))
    have f26 := (A23.ext E24)
    have f27 := ((D23 (Or.inr (hw _ (List.mem_of_getElem? (i := 26) rfl))) (ty := (.array .byte)) (by decide)).ext E24)
    have f28 := ((D23 (Or.inr (hw _ (List.mem_of_getElem? (i := 27) rfl))) (ty := .byte) (by decide)).ext E24)
    obtain ⟨v25, T25, L25, X25, hS25, hZ25, hown25, CH25, hQ25, st25⟩ := own_callNW X24 hx hZ hS0 hke24 hEL Ce24.1 (argsL := [(.ref b24)]) (rest := [(.ref b23)]) (rm_s1 l Z a0 hw b23 b24 k24 h24 n0 O24 ge_b23 f26 f27 f28 V24) rfl hown (hw _ (List.mem_of_getElem? (i := 14) rfl)) (hw _ (List.mem_of_getElem? (i := 15) rfl)) (hw _ (List.mem_of_getElem? (i := 12) rfl)) (hw _ (List.mem_of_getElem? (i := 16) rfl)) (by decide) e24 (g := (mkF m 16 #[.val (.int p1), .val (.int (0 : Int32))] [(.ref b24), (.ref b23), (.ref b23)])) rfl (by rw [hml]; rfl) (lenOf own_pd__28_5bC_29V rfl) rfl (W := 1) (by show 2 * 0 + _ ≤ _; exact Nat.le_of_eq rfl) (hb hby d1_16) (by decide) (by decide) (by decide) (by decide)
    obtain ⟨rfl, Nq25, Kq25, t25, kt25, Fc25, Fv25, Vt25⟩ := hQ25
    have N25 := Fr.app N22 Nq25
    have O25 := O24.keep Kq25 (allS ge_b23 all0)
    have K25 := K24.trans Kq25 (allS (Or.inr sz_b23) all0)
    have C25 := Ce24.trans CH25
    have hk25 := Nat.le_refl T25.heap.size
    refine own_stW st25 ?_
    show own_goW _ _ _ _ _ _ _ _ _ _ (T25.setTop (mkF m 19 #[.val (.int p1), .val (.int (0 : Int32))] [(.ref b23)]))
    have f29 := (f26.keep Kq25)
    exact own_retAW X25 hx hlk hS25 hk25 hZ25 hEL C25 rfl hret rfl rfl (hb hby d1_19) (by decide) (by decide) (by rw [own_cs0 q]; exact ⟨_, rfl, N25, K25, sz_b23, f29, Fc25, _, _, Fv25, Vt25⟩)
  · skip
    rw [q]
    show own_goW _ _ _ _ _ _ _ _ _ _ (T22.setTop (mkF m 4 #[.val (.int p1), .unset] [(.int (1 : Int32))]))
    refine own_stW (fun _ k => XS.istoreN X22.here hx rfl (hb hby d1_4) rfl (l' := #[.val (.int p1), .val (.int (1 : Int32))]) rfl k) ?_
    show own_goW _ _ _ _ _ _ _ _ _ _ (T22.setTop (mkF m 5 #[.val (.int p1), .val (.int (1 : Int32))] []))
    refine own_stW (fun _ k => XS.iloadN X22.here hx rfl (hb hby d1_5) rfl k) ?_
    show own_goW _ _ _ _ _ _ _ _ _ _ (T22.setTop (mkF m 6 #[.val (.int p1), .val (.int (1 : Int32))] [(.int (1 : Int32))]))
    refine own_stW (fun _ k => XS.ifYes X22.here hx rfl (pc0 := 6) (pc' := 20) rfl (hb hby d1_6) rfl (by decide) (by decide) (by decide) k) ?_
    show own_goW _ _ _ _ _ _ _ _ _ _ (T22.setTop (mkF m 20 #[.val (.int p1), .val (.int (1 : Int32))] []))
    refine own_stW (fun _ k => XS.iloadN X22.here hx rfl (hb hby d1_20) rfl k) ?_
    show own_goW _ _ _ _ _ _ _ _ _ _ (T22.setTop (mkF m 21 #[.val (.int p1), .val (.int (1 : Int32))] [(.int (1 : Int32))]))
    refine own_stW (fun _ k => XS.iconst X22.here hx rfl (hb hby d1_21) k) ?_
    show own_goW _ _ _ _ _ _ _ _ _ _ (T22.setTop (mkF m 22 #[.val (.int p1), .val (.int (1 : Int32))] [(.int (1 : Int32)), (.int (1 : Int32))]))
    refine own_stW (fun _ k => XS.icmpNo X22.here hx rfl (hb hby d1_22) rfl (by decide) k) ?_
    show own_goW _ _ _ _ _ _ _ _ _ _ (T22.setTop (mkF m 25 #[.val (.int p1), .val (.int (1 : Int32))] []))
    obtain ⟨T30, h30, X30, e30, E30, A30, D30, -, st30⟩ := newO X22 hx hZ hown (hw _ (List.mem_of_getElem? (i := 10) rfl)) (hw _ (List.mem_of_getElem? (i := 11) rfl)) (hw _ (List.mem_of_getElem? (i := 12) rfl)) eq22 (g := (mkF m 25 #[.val (.int p1), .val (.int (1 : Int32))] [])) rfl (hb hby d1_25) (by decide) (by decide)
    obtain ⟨b30, g30⟩ : ∃ z, z = h0.size := ⟨_, rfl⟩
    rw [← g30] at A30 D30 st30
    have ge_b30 : n0 ≤ b30 := by rw [g30]; exact own_osz O0
    have sz_b30 : h0.size ≤ b30 := by rw [g30]; exact K0.1
    have O30 := O0.ext E30
    have K30 := K0.ext E30
    have Ce30 := C0.trans (CHr.ext E30 C0.1)
    have hke30 := Nat.le_trans hk0 E30.1
    refine own_stW st30 ?_
    show own_goW _ _ _ _ _ _ _ _ _ _ (T30.setTop (mkF m 28 #[.val (.int p1), .val (.int (1 : Int32))] [(.ref b30)]))
    refine own_stW (fun _ k => XS.dup X30.here hx rfl (hb hby d1_28) rfl rfl k) ?_
    show own_goW _ _ _ _ _ _ _ _ _ _ (T30.setTop (mkF m 29 #[.val (.int p1), .val (.int (1 : Int32))] [(.ref b30), (.ref b30)]))
    refine own_stW (fun _ k => XS.iconst X30.here hx rfl (hb hby d1_29) k) ?_
    show own_goW _ _ _ _ _ _ _ _ _ _ (T30.setTop (mkF m 30 #[.val (.int p1), .val (.int (1 : Int32))] [(.int (1 : Int32)), (.ref b30), (.ref b30)]))
    obtain ⟨T31, h31, k31, b31, X31, e31, g31, E31, V31, st31⟩ := own_newP X30 hx hZ (aty := .char) (hw _ (List.mem_of_getElem? (i := 13) rfl)) e30 (g := (mkF m 30 #[.val (.int p1), .val (.int (1 : Int32))] [(.int (1 : Int32)), (.ref b30), (.ref b30)])) rfl (hb hby d1_30) rfl (by decide) (cap := 1) (by decide) (by decide) (by decide) (by decide)
    replace V31 : Arv Z h31 b31 k31 .char (1 : Int32) [(.int (0 : Int32))] (.int (0 : Int32)) := V31
    have ge_b31 : n0 ≤ b31 := by rw [g31]; exact own_osz O30
    have sz_b31 : h0.size ≤ b31 := by rw [g31]; exact K30.1
    have ne_b30_b31 : b30 ≠ b31 := (fun q => absurd A30.lt (by rw [q, g31]; exact Nat.lt_irrefl _))
    have O31 := O30.ext E31
    have K31 := K30.ext E31
    have Ce31 := Ce30.trans (CHr.ext E31 Ce30.1)
    have hke31 := Nat.le_trans hke30 E31.1
    refine own_stW st31 ?_
    show own_goW _ _ _ _ _ _ _ _ _ _ (T31.setTop (mkF m 32 #[.val (.int p1), .val (.int (1 : Int32))] [(.ref b31), (.ref b30), (.ref b30)]))
    refine own_stW (fun _ k => XS.dup X31.here hx rfl (hb hby d1_32) rfl rfl k) ?_
    show own_goW _ _ _ _ _ _ _ _ _ _ (T31.setTop (mkF m 33 #[.val (.int p1), .val (.int (1 : Int32))] [(.ref b31), (.ref b31), (.ref b30), (.ref b30)]))
    refine own_stW (fun _ k => XS.iconst X31.here hx rfl (hb hby d1_33) k) ?_
    show own_goW _ _ _ _ _ _ _ _ _ _ (T31.setTop (mkF m 34 #[.val (.int p1), .val (.int (1 : Int32))] [(.int (0 : Int32)), (.ref b31), (.ref b31), (.ref b30), (.ref b30)]))
    refine own_stW (fun _ k => XS.iloadN X31.here hx rfl (hb hby d1_34) rfl k) ?_
    show own_goW _ _ _ _ _ _ _ _ _ _ (T31.setTop (mkF m 35 #[.val (.int p1), .val (.int (1 : Int32))] [(.int p1), (.int (0 : Int32)), (.ref b31), (.ref b31), (.ref b30), (.ref b30)]))
    obtain ⟨v32, T32, L32, X32, hQ32, st32⟩ := own_callS X31 hx hZ (argsL := [(.int p1)]) (rest := [(.int (0 : Int32)), (.ref b31), (.ref b31), (.ref b30), (.ref b30)]) (rm_c0 l Z a0 hw p1 h31 n0 O31) hown (hw _ (List.mem_of_getElem? (i := 59) rfl)) (hw _ (List.mem_of_getElem? (i := 60) rfl)) (hw _ (List.mem_of_getElem? (i := 5) rfl)) (hw _ (List.mem_of_getElem? (i := 61) rfl)) (by decide) e31 (g := (mkF m 35 #[.val (.int p1), .val (.int (1 : Int32))] [(.int p1), (.int (0 : Int32)), (.ref b31), (.ref b31), (.ref b30), (.ref b30)])) rfl (by rw [hml]; rfl) (lenOf own_pd__28I_29C rfl) rfl (W := 5) (by show 2 * 0 + _ ≤ _; exact Nat.le_of_eq rfl) (hb hby d1_35) (by decide) (by decide) (by decide) (by decide)
    obtain ⟨rfl, Nq32, eq32⟩ := hQ32
    have N32 := Fr.app N22 Nq32
    refine own_stW st32 ?_
    show own_goW _ _ _ _ _ _ _ _ _ _ (T32.setTop (mkF m 38 #[.val (.int p1), .val (.int (1 : Int32))] [(.int (own_c0 p1)), (.int (0 : Int32)), (.ref b31), (.ref b31), (.ref b30), (.ref b30)]))
    obtain ⟨T33, h33, X33, e33, W33, V33, st33⟩ := own_putC X32 hx hZ eq32 V31 (y := (own_c0 p1)) (own_nc0 p1) (j := (0 : Int32)) (by decide) 0 (by decide) (by show 0 < 1; decide) (g := (mkF m 38 #[.val (.int p1), .val (.int (1 : Int32))] [(.int (own_c0 p1)), (.int (0 : Int32)), (.ref b31), (.ref b31), (.ref b30), (.ref b30)])) rfl rfl (hb hby d1_38)
    have N33 := Fr.snoc X33 N32 ge_b31
    replace V33 : Arv Z h33 b31 k31 .char (1 : Int32) [(.int (own_c0 p1))] (.int (0 : Int32)) := V33
    have sf34 : Safe Z consts_1 s.vm h31 b31 := (own_safeV hZ.alike V31 (by decide))
    have Cw34 := Ce31.trans (CHr.wr W33 sf34 Ce31.1)
    have hkw34 := Nat.le_trans hke31 (Keep.of_wr W33).1
    have O34 := O31.wr W33 ge_b31
    have K34 := K31.wr W33 (Or.inr sz_b31)
    refine own_stW st33 ?_
    show own_goW _ _ _ _ _ _ _ _ _ _ (T33.setTop (mkF m 39 #[.val (.int p1), .val (.int (1 : Int32))] [(.ref b31), (.ref b30), (.ref b30)]))
    have hws35 : ∀ d ∈ StrChars.Road.words, d.before a0 Z = true := fun d hd => hw d ((by decide +kernel : ∀ d ∈ StrChars.Road.words, d ∈ tables_1) d hd)
    have hlat35 : ∀ c ∈ [(own_c0 p1)], ¬ c < 0 ∧ ¬ (255 : Int32) < c := by
      intro c hc
      simp only [List.mem_cons, List.not_mem_nil, or_false] at hc
      subst hc
      · exact own_p255 _
    have f36 := ((A30.ext E31).wr W33)
    have f37 := (((D30 (Or.inr (hw _ (List.mem_of_getElem? (i := 26) rfl))) (ty := (.array .byte)) (by decide)).ext E31).other W33 (Or.inl ne_b30_b31))
    have f38 := (((D30 (Or.inr (hw _ (List.mem_of_getElem? (i := 27) rfl))) (ty := .byte) (by decide)).ext E31).other W33 (Or.inl ne_b30_b31))
    obtain ⟨v35, _, ⟨T35, L35, k35, n35⟩, -, X35, ⟨Lc35, hQ35, l35, y35, z35⟩, st35⟩ := X33.specialBack hx (y := (⟨"java/lang/String", "<init>", "([C)V"⟩ : MethodName)) rfl hown (mvT hZ (hw _ (List.mem_of_getElem? (i := 14) rfl))) (mvT hZ (hw _ (List.mem_of_getElem? (i := 15) rfl))) (mvT hZ (hw _ (List.mem_of_getElem? (i := 16) rfl))) (by decide) (StrChars.Road.backV (W := 1) hZ hws35 (kI := 4) (hw _ (List.mem_of_getElem? (i := 11) rfl)) (cs := [(own_c0 p1)]) (bs := [((own_c0 p1)).toInt8.toInt32]) (n := 1) ge_b30 (own_osz O34) f36 f37 f38 V33 (hS.1.ext O34.2) hS.2 rfl rfl (by decide) (by decide) hlat35 rfl (by decide) (by decide)) (g := (mkF m 39 #[.val (.int p1), .val (.int (1 : Int32))] [(.ref b31), (.ref b30), (.ref b30)])) rfl (by rw [hml]; rfl) (Steps.refl _) (a := b30) (argsL := [(.ref b31)]) (rest := [(.ref b30)]) (lenOf own_pd__28_5bC_29V rfl) rfl (by show 2 * 0 + _ ≤ _; exact Nat.le_of_eq rfl) (hb hby d1_39) (fun _ _ => ⟨rfl, e33, (by decide : 2 + 1 ≤ _), (by decide : 5 + 1 ≤ _)⟩)
    dsimp only [Pt.U, Pt.locs, Pt.cells, Pt.slots] at X35 l35 y35 z35 st35 hQ35
    subst l35 y35 z35
    obtain ⟨rfl, Nq35, Kq35, A35, C35, t35, kb35, gt35, szt35, net35, U35, Vt35⟩ := hQ35
    have N35 := Fr.app N33 Nq35
    have ne_b30_t35 : b30 ≠ t35 := (Nat.ne_of_lt (Nat.lt_of_lt_of_le f36.lt szt35))
    have ne_b31_t35 : b31 ≠ t35 := (Nat.ne_of_lt (Nat.lt_of_lt_of_le V33.lt szt35))
    have Ck35 := Cw34.trans (CHr.keep Kq35 (allS (own_safeS hZ.alike f36 f37) all0) Cw34.1)
    have hkk35 := Nat.le_trans hkw34 Kq35.1
    have O35 := O34.keep Kq35 (allS ge_b30 all0)
    have K35 := K34.trans Kq35 (allS (Or.inr sz_b30) all0)
    refine own_stW (fun _ k => st35.trans k) ?_
    show own_goW _ _ _ _ _ _ _ _ _ _ (T35.setTop (mkF m 42 #[.val (.int p1), .val (.int (1 : Int32))] [(.ref b30)]))
    exact own_retAW X35 hx hlk hS0 hkk35 hZ hEL Ck35 rfl hret rfl rfl (hb hby d1_42) (by decide) (by decide) (by rw [own_cs1 q]; exact ⟨_, rfl, N35, K35, sz_b30, A35, C35, _, _, U35, Vt35⟩)
  · skip
    rw [q]
    show own_goW _ _ _ _ _ _ _ _ _ _ (T22.setTop (mkF m 4 #[.val (.int p1), .unset] [(.int (2 : Int32))]))
    refine own_stW (fun _ k => XS.istoreN X22.here hx rfl (hb hby d1_4) rfl (l' := #[.val (.int p1), .val (.int (2 : Int32))]) rfl k) ?_
    show own_goW _ _ _ _ _ _ _ _ _ _ (T22.setTop (mkF m 5 #[.val (.int p1), .val (.int (2 : Int32))] []))
    refine own_stW (fun _ k => XS.iloadN X22.here hx rfl (hb hby d1_5) rfl k) ?_
    show own_goW _ _ _ _ _ _ _ _ _ _ (T22.setTop (mkF m 6 #[.val (.int p1), .val (.int (2 : Int32))] [(.int (2 : Int32))]))
    refine own_stW (fun _ k => XS.ifYes X22.here hx rfl (pc0 := 6) (pc' := 20) rfl (hb hby d1_6) rfl (by decide) (by decide) (by decide) k) ?_
    show own_goW _ _ _ _ _ _ _ _ _ _ (T22.setTop (mkF m 20 #[.val (.int p1), .val (.int (2 : Int32))] []))
    refine own_stW (fun _ k => XS.iloadN X22.here hx rfl (hb hby d1_20) rfl k) ?_
    show own_goW _ _ _ _ _ _ _ _ _ _ (T22.setTop (mkF m 21 #[.val (.int p1), .val (.int (2 : Int32))] [(.int (2 : Int32))]))
    refine own_stW (fun _ k => XS.iconst X22.here hx rfl (hb hby d1_21) k) ?_
    show own_goW _ _ _ _ _ _ _ _ _ _ (T22.setTop (mkF m 22 #[.val (.int p1), .val (.int (2 : Int32))] [(.int (1 : Int32)), (.int (2 : Int32))]))
    refine own_stW (fun _ k => XS.icmpYes X22.here hx rfl (pc0 := 22) (pc' := 43) rfl (hb hby d1_22) rfl (by decide) (by decide) (by decide) k) ?_
    show own_goW _ _ _ _ _ _ _ _ _ _ (T22.setTop (mkF m 43 #[.val (.int p1), .val (.int (2 : Int32))] []))
    obtain ⟨T39, h39, X39, e39, E39, A39, D39, -, st39⟩ := newO X22 hx hZ hown (hw _ (List.mem_of_getElem? (i := 10) rfl)) (hw _ (List.mem_of_getElem? (i := 11) rfl)) (hw _ (List.mem_of_getElem? (i := 12) rfl)) eq22 (g := (mkF m 43 #[.val (.int p1), .val (.int (2 : Int32))] [])) rfl (hb hby d1_43) (by decide) (by decide)
    obtain ⟨b39, g39⟩ : ∃ z, z = h0.size := ⟨_, rfl⟩
    rw [← g39] at A39 D39 st39
    have ge_b39 : n0 ≤ b39 := by rw [g39]; exact own_osz O0
    have sz_b39 : h0.size ≤ b39 := by rw [g39]; exact K0.1
    have O39 := O0.ext E39
    have K39 := K0.ext E39
    have Ce39 := C0.trans (CHr.ext E39 C0.1)
    have hke39 := Nat.le_trans hk0 E39.1
    refine own_stW st39 ?_
    show own_goW _ _ _ _ _ _ _ _ _ _ (T39.setTop (mkF m 46 #[.val (.int p1), .val (.int (2 : Int32))] [(.ref b39)]))
    refine own_stW (fun _ k => XS.dup X39.here hx rfl (hb hby d1_46) rfl rfl k) ?_
    show own_goW _ _ _ _ _ _ _ _ _ _ (T39.setTop (mkF m 47 #[.val (.int p1), .val (.int (2 : Int32))] [(.ref b39), (.ref b39)]))
    refine own_stW (fun _ k => XS.iconst X39.here hx rfl (hb hby d1_47) k) ?_
    show own_goW _ _ _ _ _ _ _ _ _ _ (T39.setTop (mkF m 48 #[.val (.int p1), .val (.int (2 : Int32))] [(.int (2 : Int32)), (.ref b39), (.ref b39)]))
    obtain ⟨T40, h40, k40, b40, X40, e40, g40, E40, V40, st40⟩ := own_newP X39 hx hZ (aty := .char) (hw _ (List.mem_of_getElem? (i := 13) rfl)) e39 (g := (mkF m 48 #[.val (.int p1), .val (.int (2 : Int32))] [(.int (2 : Int32)), (.ref b39), (.ref b39)])) rfl (hb hby d1_48) rfl (by decide) (cap := 2) (by decide) (by decide) (by decide) (by decide)
    replace V40 : Arv Z h40 b40 k40 .char (2 : Int32) [(.int (0 : Int32)), (.int (0 : Int32))] (.int (0 : Int32)) := V40
    have ge_b40 : n0 ≤ b40 := by rw [g40]; exact own_osz O39
    have sz_b40 : h0.size ≤ b40 := by rw [g40]; exact K39.1
    have ne_b39_b40 : b39 ≠ b40 := (fun q => absurd A39.lt (by rw [q, g40]; exact Nat.lt_irrefl _))
    have O40 := O39.ext E40
    have K40 := K39.ext E40
    have Ce40 := Ce39.trans (CHr.ext E40 Ce39.1)
    have hke40 := Nat.le_trans hke39 E40.1
    refine own_stW st40 ?_
    show own_goW _ _ _ _ _ _ _ _ _ _ (T40.setTop (mkF m 50 #[.val (.int p1), .val (.int (2 : Int32))] [(.ref b40), (.ref b39), (.ref b39)]))
    refine own_stW (fun _ k => XS.dup X40.here hx rfl (hb hby d1_50) rfl rfl k) ?_
    show own_goW _ _ _ _ _ _ _ _ _ _ (T40.setTop (mkF m 51 #[.val (.int p1), .val (.int (2 : Int32))] [(.ref b40), (.ref b40), (.ref b39), (.ref b39)]))
    refine own_stW (fun _ k => XS.iconst X40.here hx rfl (hb hby d1_51) k) ?_
    show own_goW _ _ _ _ _ _ _ _ _ _ (T40.setTop (mkF m 52 #[.val (.int p1), .val (.int (2 : Int32))] [(.int (0 : Int32)), (.ref b40), (.ref b40), (.ref b39), (.ref b39)]))
    refine own_stW (fun _ k => XS.iloadN X40.here hx rfl (hb hby d1_52) rfl k) ?_
    show own_goW _ _ _ _ _ _ _ _ _ _ (T40.setTop (mkF m 53 #[.val (.int p1), .val (.int (2 : Int32))] [(.int p1), (.int (0 : Int32)), (.ref b40), (.ref b40), (.ref b39), (.ref b39)]))
    obtain ⟨v41, T41, L41, X41, hQ41, st41⟩ := own_callS X40 hx hZ (argsL := [(.int p1)]) (rest := [(.int (0 : Int32)), (.ref b40), (.ref b40), (.ref b39), (.ref b39)]) (rm_c0 l Z a0 hw p1 h40 n0 O40) hown (hw _ (List.mem_of_getElem? (i := 59) rfl)) (hw _ (List.mem_of_getElem? (i := 60) rfl)) (hw _ (List.mem_of_getElem? (i := 5) rfl)) (hw _ (List.mem_of_getElem? (i := 61) rfl)) (by decide) e40 (g := (mkF m 53 #[.val (.int p1), .val (.int (2 : Int32))] [(.int p1), (.int (0 : Int32)), (.ref b40), (.ref b40), (.ref b39), (.ref b39)])) rfl (by rw [hml]; rfl) (lenOf own_pd__28I_29C rfl) rfl (W := 5) (by show 2 * 0 + _ ≤ _; exact Nat.le_of_eq rfl) (hb hby d1_53) (by decide) (by decide) (by decide) (by decide)
    obtain ⟨rfl, Nq41, eq41⟩ := hQ41
    have N41 := Fr.app N22 Nq41
    refine own_stW st41 ?_
    show own_goW _ _ _ _ _ _ _ _ _ _ (T41.setTop (mkF m 56 #[.val (.int p1), .val (.int (2 : Int32))] [(.int (own_c0 p1)), (.int (0 : Int32)), (.ref b40), (.ref b40), (.ref b39), (.ref b39)]))
    obtain ⟨T42, h42, X42, e42, W42, V42, st42⟩ := own_putC X41 hx hZ eq41 V40 (y := (own_c0 p1)) (own_nc0 p1) (j := (0 : Int32)) (by decide) 0 (by decide) (by show 0 < 2; decide) (g := (mkF m 56 #[.val (.int p1), .val (.int (2 : Int32))] [(.int (own_c0 p1)), (.int (0 : Int32)), (.ref b40), (.ref b40), (.ref b39), (.ref b39)])) rfl rfl (hb hby d1_56)
    have N42 := Fr.snoc X42 N41 ge_b40
    replace V42 : Arv Z h42 b40 k40 .char (2 : Int32) [(.int (own_c0 p1)), (.int (0 : Int32))] (.int (0 : Int32)) := V42
    have sf43 : Safe Z consts_1 s.vm h40 b40 := (own_safeV hZ.alike V40 (by decide))
    have Cw43 := Ce40.trans (CHr.wr W42 sf43 Ce40.1)
    have hkw43 := Nat.le_trans hke40 (Keep.of_wr W42).1
    have O43 := O40.wr W42 ge_b40
    have K43 := K40.wr W42 (Or.inr sz_b40)
    refine own_stW st42 ?_
    show own_goW _ _ _ _ _ _ _ _ _ _ (T42.setTop (mkF m 57 #[.val (.int p1), .val (.int (2 : Int32))] [(.ref b40), (.ref b39), (.ref b39)]))
    refine own_stW (fun _ k => XS.dup X42.here hx rfl (hb hby d1_57) rfl rfl k) ?_
    show own_goW _ _ _ _ _ _ _ _ _ _ (T42.setTop (mkF m 58 #[.val (.int p1), .val (.int (2 : Int32))] [(.ref b40), (.ref b40), (.ref b39), (.ref b39)]))
    refine own_stW (fun _ k => XS.iconst X42.here hx rfl (hb hby d1_58) k) ?_
    show own_goW _ _ _ _ _ _ _ _ _ _ (T42.setTop (mkF m 59 #[.val (.int p1), .val (.int (2 : Int32))] [(.int (1 : Int32)), (.ref b40), (.ref b40), (.ref b39), (.ref b39)]))
    refine own_stW (fun _ k => XS.iloadN X42.here hx rfl (hb hby d1_59) rfl k) ?_
    show own_goW _ _ _ _ _ _ _ _ _ _ (T42.setTop (mkF m 60 #[.val (.int p1), .val (.int (2 : Int32))] [(.int p1), (.int (1 : Int32)), (.ref b40), (.ref b40), (.ref b39), (.ref b39)]))
    obtain ⟨v44, T44, L44, X44, hQ44, st44⟩ := own_callS X42 hx hZ (argsL := [(.int p1)]) (rest := [(.int (1 : Int32)), (.ref b40), (.ref b40), (.ref b39), (.ref b39)]) (rm_c1 l Z a0 hw p1 h42 n0 O43) hown (hw _ (List.mem_of_getElem? (i := 62) rfl)) (hw _ (List.mem_of_getElem? (i := 63) rfl)) (hw _ (List.mem_of_getElem? (i := 5) rfl)) (hw _ (List.mem_of_getElem? (i := 64) rfl)) (by decide) e42 (g := (mkF m 60 #[.val (.int p1), .val (.int (2 : Int32))] [(.int p1), (.int (1 : Int32)), (.ref b40), (.ref b40), (.ref b39), (.ref b39)])) rfl (by rw [hml]; rfl) (lenOf own_pd__28I_29C rfl) rfl (W := 5) (by show 2 * 0 + _ ≤ _; exact Nat.le_of_eq rfl) (hb hby d1_60) (by decide) (by decide) (by decide) (by decide)
    obtain ⟨rfl, Nq44, eq44⟩ := hQ44
    have N44 := Fr.app N42 Nq44
    refine own_stW st44 ?_
    show own_goW _ _ _ _ _ _ _ _ _ _ (T44.setTop (mkF m 63 #[.val (.int p1), .val (.int (2 : Int32))] [(.int (own_c1 p1)), (.int (1 : Int32)), (.ref b40), (.ref b40), (.ref b39), (.ref b39)]))
    obtain ⟨T45, h45, X45, e45, W45, V45, st45⟩ := own_putC X44 hx hZ eq44 V42 (y := (own_c1 p1)) (own_nc1 p1) (j := (1 : Int32)) (by decide) 1 (by decide) (by show 1 < 2; decide) (g := (mkF m 63 #[.val (.int p1), .val (.int (2 : Int32))] [(.int (own_c1 p1)), (.int (1 : Int32)), (.ref b40), (.ref b40), (.ref b39), (.ref b39)])) rfl rfl (hb hby d1_63)
    have N45 := Fr.snoc X45 N44 ge_b40
    replace V45 : Arv Z h45 b40 k40 .char (2 : Int32) [(.int (own_c0 p1)), (.int (own_c1 p1))] (.int (0 : Int32)) := V45
    have sf46 : Safe Z consts_1 s.vm h42 b40 := (own_safeV hZ.alike V42 (by decide))
    have Cw46 := Cw43.trans (CHr.wr W45 sf46 Cw43.1)
    have hkw46 := Nat.le_trans hkw43 (Keep.of_wr W45).1
    have O46 := O43.wr W45 ge_b40
    have K46 := K43.wr W45 (Or.inr sz_b40)
    refine own_stW st45 ?_
    show own_goW _ _ _ _ _ _ _ _ _ _ (T45.setTop (mkF m 64 #[.val (.int p1), .val (.int (2 : Int32))] [(.ref b40), (.ref b39), (.ref b39)]))
    have hws47 : ∀ d ∈ StrChars.Road.words, d.before a0 Z = true := fun d hd => hw d ((by decide +kernel : ∀ d ∈ StrChars.Road.words, d ∈ tables_1) d hd)
    have hlat47 : ∀ c ∈ [(own_c0 p1), (own_c1 p1)], ¬ c < 0 ∧ ¬ (255 : Int32) < c := by
      intro c hc
      simp only [List.mem_cons, List.not_mem_nil, or_false] at hc
      rcases hc with rfl | rfl
      · exact own_p255 _
      · exact own_p255 _
    have f48 := (((A39.ext E40).wr W42).wr W45)
    have f49 := ((((D39 (Or.inr (hw _ (List.mem_of_getElem? (i := 26) rfl))) (ty := (.array .byte)) (by decide)).ext E40).other W42 (Or.inl ne_b39_b40)).other W45 (Or.inl ne_b39_b40))
    have f50 := ((((D39 (Or.inr (hw _ (List.mem_of_getElem? (i := 27) rfl))) (ty := .byte) (by decide)).ext E40).other W42 (Or.inl ne_b39_b40)).other W45 (Or.inl ne_b39_b40))
    obtain ⟨v47, _, ⟨T47, L47, k47, n47⟩, -, X47, ⟨Lc47, hQ47, l47, y47, z47⟩, st47⟩ := X45.specialBack hx (y := (⟨"java/lang/String", "<init>", "([C)V"⟩ : MethodName)) rfl hown (mvT hZ (hw _ (List.mem_of_getElem? (i := 14) rfl))) (mvT hZ (hw _ (List.mem_of_getElem? (i := 15) rfl))) (mvT hZ (hw _ (List.mem_of_getElem? (i := 16) rfl))) (by decide) (StrChars.Road.backV (W := 1) hZ hws47 (kI := 4) (hw _ (List.mem_of_getElem? (i := 11) rfl)) (cs := [(own_c0 p1), (own_c1 p1)]) (bs := [((own_c0 p1)).toInt8.toInt32, ((own_c1 p1)).toInt8.toInt32]) (n := 2) ge_b39 (own_osz O46) f48 f49 f50 V45 (hS.1.ext O46.2) hS.2 rfl rfl (by decide) (by decide) hlat47 rfl (by decide) (by decide)) (g := (mkF m 64 #[.val (.int p1), .val (.int (2 : Int32))] [(.ref b40), (.ref b39), (.ref b39)])) rfl (by rw [hml]; rfl) (Steps.refl _) (a := b39) (argsL := [(.ref b40)]) (rest := [(.ref b39)]) (lenOf own_pd__28_5bC_29V rfl) rfl (by show 2 * 0 + _ ≤ _; exact Nat.le_of_eq rfl) (hb hby d1_64) (fun _ _ => ⟨rfl, e45, (by decide : 2 + 1 ≤ _), (by decide : 6 + 2 ≤ _)⟩)
    dsimp only [Pt.U, Pt.locs, Pt.cells, Pt.slots] at X47 l47 y47 z47 st47 hQ47
    subst l47 y47 z47
    obtain ⟨rfl, Nq47, Kq47, A47, C47, t47, kb47, gt47, szt47, net47, U47, Vt47⟩ := hQ47
    have N47 := Fr.app N45 Nq47
    have ne_b39_t47 : b39 ≠ t47 := (Nat.ne_of_lt (Nat.lt_of_lt_of_le f48.lt szt47))
    have ne_b40_t47 : b40 ≠ t47 := (Nat.ne_of_lt (Nat.lt_of_lt_of_le V45.lt szt47))
    have Ck47 := Cw46.trans (CHr.keep Kq47 (allS (own_safeS hZ.alike f48 f49) all0) Cw46.1)
    have hkk47 := Nat.le_trans hkw46 Kq47.1
    have O47 := O46.keep Kq47 (allS ge_b39 all0)
    have K47 := K46.trans Kq47 (allS (Or.inr sz_b39) all0)
    refine own_stW (fun _ k => st47.trans k) ?_
    show own_goW _ _ _ _ _ _ _ _ _ _ (T47.setTop (mkF m 67 #[.val (.int p1), .val (.int (2 : Int32))] [(.ref b39)]))
    exact own_retAW X47 hx hlk hS0 hkk47 hZ hEL Ck47 rfl hret rfl rfl (hb hby d1_67) (by decide) (by decide) (by rw [own_cs2 q]; exact ⟨_, rfl, N47, K47, sz_b39, A47, C47, _, _, U47, Vt47⟩)
theorem d15_0 : decode method_6_code 0 = .ok (.iload_n 0, 1) := by decide +kernel
theorem d15_1 : decode method_6_code 1 = .ok (.invokestatic 7, 3) := by decide +kernel
theorem d15_4 : decode method_6_code 4 = .ok (.iload_n 1, 1) := by decide +kernel
theorem d15_5 : decode method_6_code 5 = .ok (.invokestatic 7, 3) := by decide +kernel
theorem d15_8 : decode method_6_code 8 = .ok (.if_icmp .eq 5, 3) := by decide +kernel
theorem d15_11 : decode method_6_code 11 = .ok (.iconst 0, 1) := by decide +kernel
theorem d15_12 : decode method_6_code 12 = .ok (.ireturn, 1) := by decide +kernel
theorem d15_13 : decode method_6_code 13 = .ok (.iload_n 0, 1) := by decide +kernel
theorem d15_14 : decode method_6_code 14 = .ok (.invokestatic 7, 3) := by decide +kernel
theorem d15_17 : decode method_6_code 17 = .ok (.iconst 1, 1) := by decide +kernel
theorem d15_18 : decode method_6_code 18 = .ok (.if_icmp .lt 16, 3) := by decide +kernel
theorem d15_21 : decode method_6_code 21 = .ok (.iload_n 0, 1) := by decide +kernel
theorem d15_22 : decode method_6_code 22 = .ok (.invokestatic 18, 3) := by decide +kernel
theorem d15_25 : decode method_6_code 25 = .ok (.iload_n 1, 1) := by decide +kernel
theorem d15_26 : decode method_6_code 26 = .ok (.invokestatic 18, 3) := by decide +kernel
theorem d15_29 : decode method_6_code 29 = .ok (.if_icmp .eq 5, 3) := by decide +kernel
theorem d15_32 : decode method_6_code 32 = .ok (.iconst 0, 1) := by decide +kernel
theorem d15_33 : decode method_6_code 33 = .ok (.ireturn, 1) := by decide +kernel
theorem d15_34 : decode method_6_code 34 = .ok (.iload_n 0, 1) := by decide +kernel
theorem d15_35 : decode method_6_code 35 = .ok (.invokestatic 7, 3) := by decide +kernel
theorem d15_38 : decode method_6_code 38 = .ok (.iconst 2, 1) := by decide +kernel
theorem d15_39 : decode method_6_code 39 = .ok (.if_icmp .lt 16, 3) := by decide +kernel
theorem d15_42 : decode method_6_code 42 = .ok (.iload_n 0, 1) := by decide +kernel
theorem d15_43 : decode method_6_code 43 = .ok (.invokestatic 22, 3) := by decide +kernel
theorem d15_46 : decode method_6_code 46 = .ok (.iload_n 1, 1) := by decide +kernel
theorem d15_47 : decode method_6_code 47 = .ok (.invokestatic 22, 3) := by decide +kernel
theorem d15_50 : decode method_6_code 50 = .ok (.if_icmp .eq 5, 3) := by decide +kernel
theorem d15_53 : decode method_6_code 53 = .ok (.iconst 0, 1) := by decide +kernel
theorem d15_54 : decode method_6_code 54 = .ok (.ireturn, 1) := by decide +kernel
theorem d15_55 : decode method_6_code 55 = .ok (.iconst 1, 1) := by decide +kernel
theorem d15_56 : decode method_6_code 56 = .ok (.ireturn, 1) := by decide +kernel
theorem own_pn_15 : plainFor (⟨"com/example/usher/usher/FoundGoesOnPinLaw", "same", "(II)Z"⟩ : MethodName) = true := plainFor_of_name (show plainName "com/example/usher/usher/FoundGoesOnPinLaw" = true by first | (simp [plainName, overriddenIn]; done) | decide +kernel)
theorem own_ef_rm_same (m : MethodId) (p1 : Int32) (p2 : Int32) : entryFrame m #[(.int p1), (.int p2)] 2 = mkF m 0 #[.val (.int p1), .val (.int p2)] [] := by first | (simp [entryFrame, mkF, argsToLocals, Value.category]; done) | rfl
set_option maxRecDepth 65536 in
set_option maxHeartbeats 40000000 in
theorem rm_same (l : Launch) (Z : State) (a0 : Array Value) (hw : ∀ d ∈ tables_1, d.before a0 Z = true) (p1 p2 : Int32) (h0 : Heap) (n0 : Nat) (O0 : Old Z n0 h0)  :
    own_Met l Z (⟨"com/example/usher/usher/FoundGoesOnPinLaw", "same", "(II)Z"⟩ : MethodName) method_6_code 2 (some .boolean) [] ({ frames := 1, cells := 0, slots := 0, locals := 14 } : Room) #[(.int p1), (.int p2)] h0 (fun v h L => v = some (.int (own_same p1 p2)) ∧ Fr n0 L ∧ h = h0) := by
  refine own_body own_pn_15 ?_
  intro p e s m below meth c s₁ hx hby hml hown hnm hret hlk X0 hZ e0
  replace hown : s.vm.findClass "com/example/usher/usher/FoundGoesOnPinLaw" = some m.cls := hown
  have N0 := Fr.nil n0
  have K0 := Keep.refl h0 []
  refine own_st (fun _ k => castTop (own_ef_rm_same m p1 p2) k) ?_
  show own_go _ _ _ _ _ _ _ (s₁.setTop (mkF m 0 #[.val (.int p1), .val (.int p2)] []))
  rcases own_l3 p1 with q1 | q1 | q1
  · skip
    rcases own_l3 p2 with q2 | q2 | q2
    · skip
      refine own_st (fun _ k => XS.iloadN X0.here hx rfl (hb hby d15_0) rfl k) ?_
      show own_go _ _ _ _ _ _ _ (s₁.setTop (mkF m 1 #[.val (.int p1), .val (.int p2)] [(.int p1)]))
      obtain ⟨v51, T51, L51, X51, hQ51, st51⟩ := own_callS X0 hx hZ (argsL := [(.int p1)]) (rest := []) (rm_len l Z a0 hw p1 h0 n0 O0) hown (hw _ (List.mem_of_getElem? (i := 7) rfl)) (hw _ (List.mem_of_getElem? (i := 8) rfl)) (hw _ (List.mem_of_getElem? (i := 5) rfl)) (hw _ (List.mem_of_getElem? (i := 9) rfl)) (by decide) e0 (g := (mkF m 1 #[.val (.int p1), .val (.int p2)] [(.int p1)])) rfl (by rw [hml]; rfl) (lenOf own_pd__28I_29I rfl) rfl (W := 0) (by show 2 * 0 + _ ≤ _; exact Nat.le_of_eq rfl) (hb hby d15_1) (by decide) (by decide) (by decide) (by decide)
      obtain ⟨rfl, Nq51, eq51⟩ := hQ51
      have N51 := Fr.app N0 Nq51
      refine own_st st51 ?_
      show own_go _ _ _ _ _ _ _ (T51.setTop (mkF m 4 #[.val (.int p1), .val (.int p2)] [(.int (own_len3 p1))]))
      rw [q1]
      show own_go _ _ _ _ _ _ _ (T51.setTop (mkF m 4 #[.val (.int p1), .val (.int p2)] [(.int (0 : Int32))]))
      refine own_st (fun _ k => XS.iloadN X51.here hx rfl (hb hby d15_4) rfl k) ?_
      show own_go _ _ _ _ _ _ _ (T51.setTop (mkF m 5 #[.val (.int p1), .val (.int p2)] [(.int p2), (.int (0 : Int32))]))
      obtain ⟨v52, T52, L52, X52, hQ52, st52⟩ := own_callS X51 hx hZ (argsL := [(.int p2)]) (rest := [(.int (0 : Int32))]) (rm_len l Z a0 hw p2 h0 n0 O0) hown (hw _ (List.mem_of_getElem? (i := 7) rfl)) (hw _ (List.mem_of_getElem? (i := 8) rfl)) (hw _ (List.mem_of_getElem? (i := 5) rfl)) (hw _ (List.mem_of_getElem? (i := 9) rfl)) (by decide) eq51 (g := (mkF m 5 #[.val (.int p1), .val (.int p2)] [(.int p2), (.int (0 : Int32))])) rfl (by rw [hml]; rfl) (lenOf own_pd__28I_29I rfl) rfl (W := 1) (by show 2 * 0 + _ ≤ _; exact Nat.le_of_eq rfl) (hb hby d15_5) (by decide) (by decide) (by decide) (by decide)
      obtain ⟨rfl, Nq52, eq52⟩ := hQ52
      have N52 := Fr.app N51 Nq52
      refine own_st st52 ?_
      show own_go _ _ _ _ _ _ _ (T52.setTop (mkF m 8 #[.val (.int p1), .val (.int p2)] [(.int (own_len3 p2)), (.int (0 : Int32))]))
      rw [q2]
      show own_go _ _ _ _ _ _ _ (T52.setTop (mkF m 8 #[.val (.int p1), .val (.int p2)] [(.int (0 : Int32)), (.int (0 : Int32))]))
      refine own_st (fun _ k => XS.icmpYes X52.here hx rfl (pc0 := 8) (pc' := 13) rfl (hb hby d15_8) rfl (by decide) (by decide) (by decide) k) ?_
      show own_go _ _ _ _ _ _ _ (T52.setTop (mkF m 13 #[.val (.int p1), .val (.int p2)] []))
      refine own_st (fun _ k => XS.iloadN X52.here hx rfl (hb hby d15_13) rfl k) ?_
      show own_go _ _ _ _ _ _ _ (T52.setTop (mkF m 14 #[.val (.int p1), .val (.int p2)] [(.int p1)]))
      obtain ⟨v53, T53, L53, X53, hQ53, st53⟩ := own_callS X52 hx hZ (argsL := [(.int p1)]) (rest := []) (rm_len l Z a0 hw p1 h0 n0 O0) hown (hw _ (List.mem_of_getElem? (i := 7) rfl)) (hw _ (List.mem_of_getElem? (i := 8) rfl)) (hw _ (List.mem_of_getElem? (i := 5) rfl)) (hw _ (List.mem_of_getElem? (i := 9) rfl)) (by decide) eq52 (g := (mkF m 14 #[.val (.int p1), .val (.int p2)] [(.int p1)])) rfl (by rw [hml]; rfl) (lenOf own_pd__28I_29I rfl) rfl (W := 0) (by show 2 * 0 + _ ≤ _; exact Nat.le_of_eq rfl) (hb hby d15_14) (by decide) (by decide) (by decide) (by decide)
      obtain ⟨rfl, Nq53, eq53⟩ := hQ53
      have N53 := Fr.app N52 Nq53
      refine own_st st53 ?_
      show own_go _ _ _ _ _ _ _ (T53.setTop (mkF m 17 #[.val (.int p1), .val (.int p2)] [(.int (own_len3 p1))]))
      rw [q1]
      show own_go _ _ _ _ _ _ _ (T53.setTop (mkF m 17 #[.val (.int p1), .val (.int p2)] [(.int (0 : Int32))]))
      refine own_st (fun _ k => XS.iconst X53.here hx rfl (hb hby d15_17) k) ?_
      show own_go _ _ _ _ _ _ _ (T53.setTop (mkF m 18 #[.val (.int p1), .val (.int p2)] [(.int (1 : Int32)), (.int (0 : Int32))]))
      refine own_st (fun _ k => XS.icmpYes X53.here hx rfl (pc0 := 18) (pc' := 34) rfl (hb hby d15_18) rfl (by decide) (by decide) (by decide) k) ?_
      show own_go _ _ _ _ _ _ _ (T53.setTop (mkF m 34 #[.val (.int p1), .val (.int p2)] []))
      refine own_st (fun _ k => XS.iloadN X53.here hx rfl (hb hby d15_34) rfl k) ?_
      show own_go _ _ _ _ _ _ _ (T53.setTop (mkF m 35 #[.val (.int p1), .val (.int p2)] [(.int p1)]))
      obtain ⟨v54, T54, L54, X54, hQ54, st54⟩ := own_callS X53 hx hZ (argsL := [(.int p1)]) (rest := []) (rm_len l Z a0 hw p1 h0 n0 O0) hown (hw _ (List.mem_of_getElem? (i := 7) rfl)) (hw _ (List.mem_of_getElem? (i := 8) rfl)) (hw _ (List.mem_of_getElem? (i := 5) rfl)) (hw _ (List.mem_of_getElem? (i := 9) rfl)) (by decide) eq53 (g := (mkF m 35 #[.val (.int p1), .val (.int p2)] [(.int p1)])) rfl (by rw [hml]; rfl) (lenOf own_pd__28I_29I rfl) rfl (W := 0) (by show 2 * 0 + _ ≤ _; exact Nat.le_of_eq rfl) (hb hby d15_35) (by decide) (by decide) (by decide) (by decide)
      obtain ⟨rfl, Nq54, eq54⟩ := hQ54
      have N54 := Fr.app N53 Nq54
      refine own_st st54 ?_
      show own_go _ _ _ _ _ _ _ (T54.setTop (mkF m 38 #[.val (.int p1), .val (.int p2)] [(.int (own_len3 p1))]))
      rw [q1]
      show own_go _ _ _ _ _ _ _ (T54.setTop (mkF m 38 #[.val (.int p1), .val (.int p2)] [(.int (0 : Int32))]))
      refine own_st (fun _ k => XS.iconst X54.here hx rfl (hb hby d15_38) k) ?_
      show own_go _ _ _ _ _ _ _ (T54.setTop (mkF m 39 #[.val (.int p1), .val (.int p2)] [(.int (2 : Int32)), (.int (0 : Int32))]))
      refine own_st (fun _ k => XS.icmpYes X54.here hx rfl (pc0 := 39) (pc' := 55) rfl (hb hby d15_39) rfl (by decide) (by decide) (by decide) k) ?_
      show own_go _ _ _ _ _ _ _ (T54.setTop (mkF m 55 #[.val (.int p1), .val (.int p2)] []))
      refine own_st (fun _ k => XS.iconst X54.here hx rfl (hb hby d15_55) k) ?_
      show own_go _ _ _ _ _ _ _ (T54.setTop (mkF m 56 #[.val (.int p1), .val (.int p2)] [(.int (1 : Int32))]))
      exact own_retN X54 hx hlk (t := .boolean) hret (by simp) rfl (hb hby d15_56) (by decide) (by decide) (⟨by simp [own_same, own_cs0 q1, own_cs0 q2, *], N54, eq54⟩)
    · skip
      refine own_st (fun _ k => XS.iloadN X0.here hx rfl (hb hby d15_0) rfl k) ?_
      show own_go _ _ _ _ _ _ _ (s₁.setTop (mkF m 1 #[.val (.int p1), .val (.int p2)] [(.int p1)]))
      obtain ⟨v55, T55, L55, X55, hQ55, st55⟩ := own_callS X0 hx hZ (argsL := [(.int p1)]) (rest := []) (rm_len l Z a0 hw p1 h0 n0 O0) hown (hw _ (List.mem_of_getElem? (i := 7) rfl)) (hw _ (List.mem_of_getElem? (i := 8) rfl)) (hw _ (List.mem_of_getElem? (i := 5) rfl)) (hw _ (List.mem_of_getElem? (i := 9) rfl)) (by decide) e0 (g := (mkF m 1 #[.val (.int p1), .val (.int p2)] [(.int p1)])) rfl (by rw [hml]; rfl) (lenOf own_pd__28I_29I rfl) rfl (W := 0) (by show 2 * 0 + _ ≤ _; exact Nat.le_of_eq rfl) (hb hby d15_1) (by decide) (by decide) (by decide) (by decide)
      obtain ⟨rfl, Nq55, eq55⟩ := hQ55
      have N55 := Fr.app N0 Nq55
      refine own_st st55 ?_
      show own_go _ _ _ _ _ _ _ (T55.setTop (mkF m 4 #[.val (.int p1), .val (.int p2)] [(.int (own_len3 p1))]))
      rw [q1]
      show own_go _ _ _ _ _ _ _ (T55.setTop (mkF m 4 #[.val (.int p1), .val (.int p2)] [(.int (0 : Int32))]))
      refine own_st (fun _ k => XS.iloadN X55.here hx rfl (hb hby d15_4) rfl k) ?_
      show own_go _ _ _ _ _ _ _ (T55.setTop (mkF m 5 #[.val (.int p1), .val (.int p2)] [(.int p2), (.int (0 : Int32))]))
      obtain ⟨v56, T56, L56, X56, hQ56, st56⟩ := own_callS X55 hx hZ (argsL := [(.int p2)]) (rest := [(.int (0 : Int32))]) (rm_len l Z a0 hw p2 h0 n0 O0) hown (hw _ (List.mem_of_getElem? (i := 7) rfl)) (hw _ (List.mem_of_getElem? (i := 8) rfl)) (hw _ (List.mem_of_getElem? (i := 5) rfl)) (hw _ (List.mem_of_getElem? (i := 9) rfl)) (by decide) eq55 (g := (mkF m 5 #[.val (.int p1), .val (.int p2)] [(.int p2), (.int (0 : Int32))])) rfl (by rw [hml]; rfl) (lenOf own_pd__28I_29I rfl) rfl (W := 1) (by show 2 * 0 + _ ≤ _; exact Nat.le_of_eq rfl) (hb hby d15_5) (by decide) (by decide) (by decide) (by decide)
      obtain ⟨rfl, Nq56, eq56⟩ := hQ56
      have N56 := Fr.app N55 Nq56
      refine own_st st56 ?_
      show own_go _ _ _ _ _ _ _ (T56.setTop (mkF m 8 #[.val (.int p1), .val (.int p2)] [(.int (own_len3 p2)), (.int (0 : Int32))]))
      rw [q2]
      show own_go _ _ _ _ _ _ _ (T56.setTop (mkF m 8 #[.val (.int p1), .val (.int p2)] [(.int (1 : Int32)), (.int (0 : Int32))]))
      refine own_st (fun _ k => XS.icmpNo X56.here hx rfl (hb hby d15_8) rfl (by decide) k) ?_
      show own_go _ _ _ _ _ _ _ (T56.setTop (mkF m 11 #[.val (.int p1), .val (.int p2)] []))
      refine own_st (fun _ k => XS.iconst X56.here hx rfl (hb hby d15_11) k) ?_
      show own_go _ _ _ _ _ _ _ (T56.setTop (mkF m 12 #[.val (.int p1), .val (.int p2)] [(.int (0 : Int32))]))
      exact own_retN X56 hx hlk (t := .boolean) hret (by simp) rfl (hb hby d15_12) (by decide) (by decide) (⟨by simp [own_same, own_cs0 q1, own_cs1 q2, *], N56, eq56⟩)
    · skip
      refine own_st (fun _ k => XS.iloadN X0.here hx rfl (hb hby d15_0) rfl k) ?_
      show own_go _ _ _ _ _ _ _ (s₁.setTop (mkF m 1 #[.val (.int p1), .val (.int p2)] [(.int p1)]))
      obtain ⟨v57, T57, L57, X57, hQ57, st57⟩ := own_callS X0 hx hZ (argsL := [(.int p1)]) (rest := []) (rm_len l Z a0 hw p1 h0 n0 O0) hown (hw _ (List.mem_of_getElem? (i := 7) rfl)) (hw _ (List.mem_of_getElem? (i := 8) rfl)) (hw _ (List.mem_of_getElem? (i := 5) rfl)) (hw _ (List.mem_of_getElem? (i := 9) rfl)) (by decide) e0 (g := (mkF m 1 #[.val (.int p1), .val (.int p2)] [(.int p1)])) rfl (by rw [hml]; rfl) (lenOf own_pd__28I_29I rfl) rfl (W := 0) (by show 2 * 0 + _ ≤ _; exact Nat.le_of_eq rfl) (hb hby d15_1) (by decide) (by decide) (by decide) (by decide)
      obtain ⟨rfl, Nq57, eq57⟩ := hQ57
      have N57 := Fr.app N0 Nq57
      refine own_st st57 ?_
      show own_go _ _ _ _ _ _ _ (T57.setTop (mkF m 4 #[.val (.int p1), .val (.int p2)] [(.int (own_len3 p1))]))
      rw [q1]
      show own_go _ _ _ _ _ _ _ (T57.setTop (mkF m 4 #[.val (.int p1), .val (.int p2)] [(.int (0 : Int32))]))
      refine own_st (fun _ k => XS.iloadN X57.here hx rfl (hb hby d15_4) rfl k) ?_
      show own_go _ _ _ _ _ _ _ (T57.setTop (mkF m 5 #[.val (.int p1), .val (.int p2)] [(.int p2), (.int (0 : Int32))]))
      obtain ⟨v58, T58, L58, X58, hQ58, st58⟩ := own_callS X57 hx hZ (argsL := [(.int p2)]) (rest := [(.int (0 : Int32))]) (rm_len l Z a0 hw p2 h0 n0 O0) hown (hw _ (List.mem_of_getElem? (i := 7) rfl)) (hw _ (List.mem_of_getElem? (i := 8) rfl)) (hw _ (List.mem_of_getElem? (i := 5) rfl)) (hw _ (List.mem_of_getElem? (i := 9) rfl)) (by decide) eq57 (g := (mkF m 5 #[.val (.int p1), .val (.int p2)] [(.int p2), (.int (0 : Int32))])) rfl (by rw [hml]; rfl) (lenOf own_pd__28I_29I rfl) rfl (W := 1) (by show 2 * 0 + _ ≤ _; exact Nat.le_of_eq rfl) (hb hby d15_5) (by decide) (by decide) (by decide) (by decide)
      obtain ⟨rfl, Nq58, eq58⟩ := hQ58
      have N58 := Fr.app N57 Nq58
      refine own_st st58 ?_
      show own_go _ _ _ _ _ _ _ (T58.setTop (mkF m 8 #[.val (.int p1), .val (.int p2)] [(.int (own_len3 p2)), (.int (0 : Int32))]))
      rw [q2]
      show own_go _ _ _ _ _ _ _ (T58.setTop (mkF m 8 #[.val (.int p1), .val (.int p2)] [(.int (2 : Int32)), (.int (0 : Int32))]))
      refine own_st (fun _ k => XS.icmpNo X58.here hx rfl (hb hby d15_8) rfl (by decide) k) ?_
      show own_go _ _ _ _ _ _ _ (T58.setTop (mkF m 11 #[.val (.int p1), .val (.int p2)] []))
      refine own_st (fun _ k => XS.iconst X58.here hx rfl (hb hby d15_11) k) ?_
      show own_go _ _ _ _ _ _ _ (T58.setTop (mkF m 12 #[.val (.int p1), .val (.int p2)] [(.int (0 : Int32))]))
      exact own_retN X58 hx hlk (t := .boolean) hret (by simp) rfl (hb hby d15_12) (by decide) (by decide) (⟨by simp [own_same, own_cs0 q1, own_cs2 q2, *], N58, eq58⟩)
  · skip
    rcases own_l3 p2 with q2 | q2 | q2
    · skip
      refine own_st (fun _ k => XS.iloadN X0.here hx rfl (hb hby d15_0) rfl k) ?_
      show own_go _ _ _ _ _ _ _ (s₁.setTop (mkF m 1 #[.val (.int p1), .val (.int p2)] [(.int p1)]))
      obtain ⟨v59, T59, L59, X59, hQ59, st59⟩ := own_callS X0 hx hZ (argsL := [(.int p1)]) (rest := []) (rm_len l Z a0 hw p1 h0 n0 O0) hown (hw _ (List.mem_of_getElem? (i := 7) rfl)) (hw _ (List.mem_of_getElem? (i := 8) rfl)) (hw _ (List.mem_of_getElem? (i := 5) rfl)) (hw _ (List.mem_of_getElem? (i := 9) rfl)) (by decide) e0 (g := (mkF m 1 #[.val (.int p1), .val (.int p2)] [(.int p1)])) rfl (by rw [hml]; rfl) (lenOf own_pd__28I_29I rfl) rfl (W := 0) (by show 2 * 0 + _ ≤ _; exact Nat.le_of_eq rfl) (hb hby d15_1) (by decide) (by decide) (by decide) (by decide)
      obtain ⟨rfl, Nq59, eq59⟩ := hQ59
      have N59 := Fr.app N0 Nq59
      refine own_st st59 ?_
      show own_go _ _ _ _ _ _ _ (T59.setTop (mkF m 4 #[.val (.int p1), .val (.int p2)] [(.int (own_len3 p1))]))
      rw [q1]
      show own_go _ _ _ _ _ _ _ (T59.setTop (mkF m 4 #[.val (.int p1), .val (.int p2)] [(.int (1 : Int32))]))
      refine own_st (fun _ k => XS.iloadN X59.here hx rfl (hb hby d15_4) rfl k) ?_
      show own_go _ _ _ _ _ _ _ (T59.setTop (mkF m 5 #[.val (.int p1), .val (.int p2)] [(.int p2), (.int (1 : Int32))]))
      obtain ⟨v60, T60, L60, X60, hQ60, st60⟩ := own_callS X59 hx hZ (argsL := [(.int p2)]) (rest := [(.int (1 : Int32))]) (rm_len l Z a0 hw p2 h0 n0 O0) hown (hw _ (List.mem_of_getElem? (i := 7) rfl)) (hw _ (List.mem_of_getElem? (i := 8) rfl)) (hw _ (List.mem_of_getElem? (i := 5) rfl)) (hw _ (List.mem_of_getElem? (i := 9) rfl)) (by decide) eq59 (g := (mkF m 5 #[.val (.int p1), .val (.int p2)] [(.int p2), (.int (1 : Int32))])) rfl (by rw [hml]; rfl) (lenOf own_pd__28I_29I rfl) rfl (W := 1) (by show 2 * 0 + _ ≤ _; exact Nat.le_of_eq rfl) (hb hby d15_5) (by decide) (by decide) (by decide) (by decide)
      obtain ⟨rfl, Nq60, eq60⟩ := hQ60
      have N60 := Fr.app N59 Nq60
      refine own_st st60 ?_
      show own_go _ _ _ _ _ _ _ (T60.setTop (mkF m 8 #[.val (.int p1), .val (.int p2)] [(.int (own_len3 p2)), (.int (1 : Int32))]))
      rw [q2]
      show own_go _ _ _ _ _ _ _ (T60.setTop (mkF m 8 #[.val (.int p1), .val (.int p2)] [(.int (0 : Int32)), (.int (1 : Int32))]))
      refine own_st (fun _ k => XS.icmpNo X60.here hx rfl (hb hby d15_8) rfl (by decide) k) ?_
      show own_go _ _ _ _ _ _ _ (T60.setTop (mkF m 11 #[.val (.int p1), .val (.int p2)] []))
      refine own_st (fun _ k => XS.iconst X60.here hx rfl (hb hby d15_11) k) ?_
      show own_go _ _ _ _ _ _ _ (T60.setTop (mkF m 12 #[.val (.int p1), .val (.int p2)] [(.int (0 : Int32))]))
      exact own_retN X60 hx hlk (t := .boolean) hret (by simp) rfl (hb hby d15_12) (by decide) (by decide) (⟨by simp [own_same, own_cs1 q1, own_cs0 q2, *], N60, eq60⟩)
    · skip
      refine own_st (fun _ k => XS.iloadN X0.here hx rfl (hb hby d15_0) rfl k) ?_
      show own_go _ _ _ _ _ _ _ (s₁.setTop (mkF m 1 #[.val (.int p1), .val (.int p2)] [(.int p1)]))
      obtain ⟨v61, T61, L61, X61, hQ61, st61⟩ := own_callS X0 hx hZ (argsL := [(.int p1)]) (rest := []) (rm_len l Z a0 hw p1 h0 n0 O0) hown (hw _ (List.mem_of_getElem? (i := 7) rfl)) (hw _ (List.mem_of_getElem? (i := 8) rfl)) (hw _ (List.mem_of_getElem? (i := 5) rfl)) (hw _ (List.mem_of_getElem? (i := 9) rfl)) (by decide) e0 (g := (mkF m 1 #[.val (.int p1), .val (.int p2)] [(.int p1)])) rfl (by rw [hml]; rfl) (lenOf own_pd__28I_29I rfl) rfl (W := 0) (by show 2 * 0 + _ ≤ _; exact Nat.le_of_eq rfl) (hb hby d15_1) (by decide) (by decide) (by decide) (by decide)
      obtain ⟨rfl, Nq61, eq61⟩ := hQ61
      have N61 := Fr.app N0 Nq61
      refine own_st st61 ?_
      show own_go _ _ _ _ _ _ _ (T61.setTop (mkF m 4 #[.val (.int p1), .val (.int p2)] [(.int (own_len3 p1))]))
      rw [q1]
      show own_go _ _ _ _ _ _ _ (T61.setTop (mkF m 4 #[.val (.int p1), .val (.int p2)] [(.int (1 : Int32))]))
      refine own_st (fun _ k => XS.iloadN X61.here hx rfl (hb hby d15_4) rfl k) ?_
      show own_go _ _ _ _ _ _ _ (T61.setTop (mkF m 5 #[.val (.int p1), .val (.int p2)] [(.int p2), (.int (1 : Int32))]))
      obtain ⟨v62, T62, L62, X62, hQ62, st62⟩ := own_callS X61 hx hZ (argsL := [(.int p2)]) (rest := [(.int (1 : Int32))]) (rm_len l Z a0 hw p2 h0 n0 O0) hown (hw _ (List.mem_of_getElem? (i := 7) rfl)) (hw _ (List.mem_of_getElem? (i := 8) rfl)) (hw _ (List.mem_of_getElem? (i := 5) rfl)) (hw _ (List.mem_of_getElem? (i := 9) rfl)) (by decide) eq61 (g := (mkF m 5 #[.val (.int p1), .val (.int p2)] [(.int p2), (.int (1 : Int32))])) rfl (by rw [hml]; rfl) (lenOf own_pd__28I_29I rfl) rfl (W := 1) (by show 2 * 0 + _ ≤ _; exact Nat.le_of_eq rfl) (hb hby d15_5) (by decide) (by decide) (by decide) (by decide)
      obtain ⟨rfl, Nq62, eq62⟩ := hQ62
      have N62 := Fr.app N61 Nq62
      refine own_st st62 ?_
      show own_go _ _ _ _ _ _ _ (T62.setTop (mkF m 8 #[.val (.int p1), .val (.int p2)] [(.int (own_len3 p2)), (.int (1 : Int32))]))
      rw [q2]
      show own_go _ _ _ _ _ _ _ (T62.setTop (mkF m 8 #[.val (.int p1), .val (.int p2)] [(.int (1 : Int32)), (.int (1 : Int32))]))
      refine own_st (fun _ k => XS.icmpYes X62.here hx rfl (pc0 := 8) (pc' := 13) rfl (hb hby d15_8) rfl (by decide) (by decide) (by decide) k) ?_
      show own_go _ _ _ _ _ _ _ (T62.setTop (mkF m 13 #[.val (.int p1), .val (.int p2)] []))
      refine own_st (fun _ k => XS.iloadN X62.here hx rfl (hb hby d15_13) rfl k) ?_
      show own_go _ _ _ _ _ _ _ (T62.setTop (mkF m 14 #[.val (.int p1), .val (.int p2)] [(.int p1)]))
      obtain ⟨v63, T63, L63, X63, hQ63, st63⟩ := own_callS X62 hx hZ (argsL := [(.int p1)]) (rest := []) (rm_len l Z a0 hw p1 h0 n0 O0) hown (hw _ (List.mem_of_getElem? (i := 7) rfl)) (hw _ (List.mem_of_getElem? (i := 8) rfl)) (hw _ (List.mem_of_getElem? (i := 5) rfl)) (hw _ (List.mem_of_getElem? (i := 9) rfl)) (by decide) eq62 (g := (mkF m 14 #[.val (.int p1), .val (.int p2)] [(.int p1)])) rfl (by rw [hml]; rfl) (lenOf own_pd__28I_29I rfl) rfl (W := 0) (by show 2 * 0 + _ ≤ _; exact Nat.le_of_eq rfl) (hb hby d15_14) (by decide) (by decide) (by decide) (by decide)
      obtain ⟨rfl, Nq63, eq63⟩ := hQ63
      have N63 := Fr.app N62 Nq63
      refine own_st st63 ?_
      show own_go _ _ _ _ _ _ _ (T63.setTop (mkF m 17 #[.val (.int p1), .val (.int p2)] [(.int (own_len3 p1))]))
      rw [q1]
      show own_go _ _ _ _ _ _ _ (T63.setTop (mkF m 17 #[.val (.int p1), .val (.int p2)] [(.int (1 : Int32))]))
      refine own_st (fun _ k => XS.iconst X63.here hx rfl (hb hby d15_17) k) ?_
      show own_go _ _ _ _ _ _ _ (T63.setTop (mkF m 18 #[.val (.int p1), .val (.int p2)] [(.int (1 : Int32)), (.int (1 : Int32))]))
      refine own_st (fun _ k => XS.icmpNo X63.here hx rfl (hb hby d15_18) rfl (by decide) k) ?_
      show own_go _ _ _ _ _ _ _ (T63.setTop (mkF m 21 #[.val (.int p1), .val (.int p2)] []))
      refine own_st (fun _ k => XS.iloadN X63.here hx rfl (hb hby d15_21) rfl k) ?_
      show own_go _ _ _ _ _ _ _ (T63.setTop (mkF m 22 #[.val (.int p1), .val (.int p2)] [(.int p1)]))
      obtain ⟨v64, T64, L64, X64, hQ64, st64⟩ := own_callS X63 hx hZ (argsL := [(.int p1)]) (rest := []) (rm_c0 l Z a0 hw p1 h0 n0 O0) hown (hw _ (List.mem_of_getElem? (i := 59) rfl)) (hw _ (List.mem_of_getElem? (i := 60) rfl)) (hw _ (List.mem_of_getElem? (i := 5) rfl)) (hw _ (List.mem_of_getElem? (i := 61) rfl)) (by decide) eq63 (g := (mkF m 22 #[.val (.int p1), .val (.int p2)] [(.int p1)])) rfl (by rw [hml]; rfl) (lenOf own_pd__28I_29C rfl) rfl (W := 0) (by show 2 * 0 + _ ≤ _; exact Nat.le_of_eq rfl) (hb hby d15_22) (by decide) (by decide) (by decide) (by decide)
      obtain ⟨rfl, Nq64, eq64⟩ := hQ64
      have N64 := Fr.app N63 Nq64
      refine own_st st64 ?_
      show own_go _ _ _ _ _ _ _ (T64.setTop (mkF m 25 #[.val (.int p1), .val (.int p2)] [(.int (own_c0 p1))]))
      refine own_st (fun _ k => XS.iloadN X64.here hx rfl (hb hby d15_25) rfl k) ?_
      show own_go _ _ _ _ _ _ _ (T64.setTop (mkF m 26 #[.val (.int p1), .val (.int p2)] [(.int p2), (.int (own_c0 p1))]))
      obtain ⟨v65, T65, L65, X65, hQ65, st65⟩ := own_callS X64 hx hZ (argsL := [(.int p2)]) (rest := [(.int (own_c0 p1))]) (rm_c0 l Z a0 hw p2 h0 n0 O0) hown (hw _ (List.mem_of_getElem? (i := 59) rfl)) (hw _ (List.mem_of_getElem? (i := 60) rfl)) (hw _ (List.mem_of_getElem? (i := 5) rfl)) (hw _ (List.mem_of_getElem? (i := 61) rfl)) (by decide) eq64 (g := (mkF m 26 #[.val (.int p1), .val (.int p2)] [(.int p2), (.int (own_c0 p1))])) rfl (by rw [hml]; rfl) (lenOf own_pd__28I_29C rfl) rfl (W := 1) (by show 2 * 0 + _ ≤ _; exact Nat.le_of_eq rfl) (hb hby d15_26) (by decide) (by decide) (by decide) (by decide)
      obtain ⟨rfl, Nq65, eq65⟩ := hQ65
      have N65 := Fr.app N64 Nq65
      refine own_st st65 ?_
      show own_go _ _ _ _ _ _ _ (T65.setTop (mkF m 29 #[.val (.int p1), .val (.int p2)] [(.int (own_c0 p2)), (.int (own_c0 p1))]))
      by_cases hc66 : (own_c0 p1) = (own_c0 p2)
      · skip
        refine own_st (fun _ k => XS.icmpYes X65.here hx rfl (pc0 := 29) (pc' := 34) rfl (hb hby d15_29) rfl (XT.ii_eq_t hc66) (by decide) (by decide) k) ?_
        show own_go _ _ _ _ _ _ _ (T65.setTop (mkF m 34 #[.val (.int p1), .val (.int p2)] []))
        refine own_st (fun _ k => XS.iloadN X65.here hx rfl (hb hby d15_34) rfl k) ?_
        show own_go _ _ _ _ _ _ _ (T65.setTop (mkF m 35 #[.val (.int p1), .val (.int p2)] [(.int p1)]))
        obtain ⟨v67, T67, L67, X67, hQ67, st67⟩ := own_callS X65 hx hZ (argsL := [(.int p1)]) (rest := []) (rm_len l Z a0 hw p1 h0 n0 O0) hown (hw _ (List.mem_of_getElem? (i := 7) rfl)) (hw _ (List.mem_of_getElem? (i := 8) rfl)) (hw _ (List.mem_of_getElem? (i := 5) rfl)) (hw _ (List.mem_of_getElem? (i := 9) rfl)) (by decide) eq65 (g := (mkF m 35 #[.val (.int p1), .val (.int p2)] [(.int p1)])) rfl (by rw [hml]; rfl) (lenOf own_pd__28I_29I rfl) rfl (W := 0) (by show 2 * 0 + _ ≤ _; exact Nat.le_of_eq rfl) (hb hby d15_35) (by decide) (by decide) (by decide) (by decide)
        obtain ⟨rfl, Nq67, eq67⟩ := hQ67
        have N67 := Fr.app N65 Nq67
        refine own_st st67 ?_
        show own_go _ _ _ _ _ _ _ (T67.setTop (mkF m 38 #[.val (.int p1), .val (.int p2)] [(.int (own_len3 p1))]))
        rw [q1]
        show own_go _ _ _ _ _ _ _ (T67.setTop (mkF m 38 #[.val (.int p1), .val (.int p2)] [(.int (1 : Int32))]))
        refine own_st (fun _ k => XS.iconst X67.here hx rfl (hb hby d15_38) k) ?_
        show own_go _ _ _ _ _ _ _ (T67.setTop (mkF m 39 #[.val (.int p1), .val (.int p2)] [(.int (2 : Int32)), (.int (1 : Int32))]))
        refine own_st (fun _ k => XS.icmpYes X67.here hx rfl (pc0 := 39) (pc' := 55) rfl (hb hby d15_39) rfl (by decide) (by decide) (by decide) k) ?_
        show own_go _ _ _ _ _ _ _ (T67.setTop (mkF m 55 #[.val (.int p1), .val (.int p2)] []))
        refine own_st (fun _ k => XS.iconst X67.here hx rfl (hb hby d15_55) k) ?_
        show own_go _ _ _ _ _ _ _ (T67.setTop (mkF m 56 #[.val (.int p1), .val (.int p2)] [(.int (1 : Int32))]))
        exact own_retN X67 hx hlk (t := .boolean) hret (by simp) rfl (hb hby d15_56) (by decide) (by decide) (⟨by simp [own_same, own_cs1 q1, own_cs1 q2, *], N67, eq67⟩)
      · skip
        refine own_st (fun _ k => XS.icmpNo X65.here hx rfl (hb hby d15_29) rfl (XT.ii_eq_f hc66) k) ?_
        show own_go _ _ _ _ _ _ _ (T65.setTop (mkF m 32 #[.val (.int p1), .val (.int p2)] []))
        refine own_st (fun _ k => XS.iconst X65.here hx rfl (hb hby d15_32) k) ?_
        show own_go _ _ _ _ _ _ _ (T65.setTop (mkF m 33 #[.val (.int p1), .val (.int p2)] [(.int (0 : Int32))]))
        exact own_retN X65 hx hlk (t := .boolean) hret (by simp) rfl (hb hby d15_33) (by decide) (by decide) (⟨by simp [own_same, own_cs1 q1, own_cs1 q2, *], N65, eq65⟩)
    · skip
      refine own_st (fun _ k => XS.iloadN X0.here hx rfl (hb hby d15_0) rfl k) ?_
      show own_go _ _ _ _ _ _ _ (s₁.setTop (mkF m 1 #[.val (.int p1), .val (.int p2)] [(.int p1)]))
      obtain ⟨v68, T68, L68, X68, hQ68, st68⟩ := own_callS X0 hx hZ (argsL := [(.int p1)]) (rest := []) (rm_len l Z a0 hw p1 h0 n0 O0) hown (hw _ (List.mem_of_getElem? (i := 7) rfl)) (hw _ (List.mem_of_getElem? (i := 8) rfl)) (hw _ (List.mem_of_getElem? (i := 5) rfl)) (hw _ (List.mem_of_getElem? (i := 9) rfl)) (by decide) e0 (g := (mkF m 1 #[.val (.int p1), .val (.int p2)] [(.int p1)])) rfl (by rw [hml]; rfl) (lenOf own_pd__28I_29I rfl) rfl (W := 0) (by show 2 * 0 + _ ≤ _; exact Nat.le_of_eq rfl) (hb hby d15_1) (by decide) (by decide) (by decide) (by decide)
      obtain ⟨rfl, Nq68, eq68⟩ := hQ68
      have N68 := Fr.app N0 Nq68
      refine own_st st68 ?_
      show own_go _ _ _ _ _ _ _ (T68.setTop (mkF m 4 #[.val (.int p1), .val (.int p2)] [(.int (own_len3 p1))]))
      rw [q1]
      show own_go _ _ _ _ _ _ _ (T68.setTop (mkF m 4 #[.val (.int p1), .val (.int p2)] [(.int (1 : Int32))]))
      refine own_st (fun _ k => XS.iloadN X68.here hx rfl (hb hby d15_4) rfl k) ?_
      show own_go _ _ _ _ _ _ _ (T68.setTop (mkF m 5 #[.val (.int p1), .val (.int p2)] [(.int p2), (.int (1 : Int32))]))
      obtain ⟨v69, T69, L69, X69, hQ69, st69⟩ := own_callS X68 hx hZ (argsL := [(.int p2)]) (rest := [(.int (1 : Int32))]) (rm_len l Z a0 hw p2 h0 n0 O0) hown (hw _ (List.mem_of_getElem? (i := 7) rfl)) (hw _ (List.mem_of_getElem? (i := 8) rfl)) (hw _ (List.mem_of_getElem? (i := 5) rfl)) (hw _ (List.mem_of_getElem? (i := 9) rfl)) (by decide) eq68 (g := (mkF m 5 #[.val (.int p1), .val (.int p2)] [(.int p2), (.int (1 : Int32))])) rfl (by rw [hml]; rfl) (lenOf own_pd__28I_29I rfl) rfl (W := 1) (by show 2 * 0 + _ ≤ _; exact Nat.le_of_eq rfl) (hb hby d15_5) (by decide) (by decide) (by decide) (by decide)
      obtain ⟨rfl, Nq69, eq69⟩ := hQ69
      have N69 := Fr.app N68 Nq69
      refine own_st st69 ?_
      show own_go _ _ _ _ _ _ _ (T69.setTop (mkF m 8 #[.val (.int p1), .val (.int p2)] [(.int (own_len3 p2)), (.int (1 : Int32))]))
      rw [q2]
      show own_go _ _ _ _ _ _ _ (T69.setTop (mkF m 8 #[.val (.int p1), .val (.int p2)] [(.int (2 : Int32)), (.int (1 : Int32))]))
      refine own_st (fun _ k => XS.icmpNo X69.here hx rfl (hb hby d15_8) rfl (by decide) k) ?_
      show own_go _ _ _ _ _ _ _ (T69.setTop (mkF m 11 #[.val (.int p1), .val (.int p2)] []))
      refine own_st (fun _ k => XS.iconst X69.here hx rfl (hb hby d15_11) k) ?_
      show own_go _ _ _ _ _ _ _ (T69.setTop (mkF m 12 #[.val (.int p1), .val (.int p2)] [(.int (0 : Int32))]))
      exact own_retN X69 hx hlk (t := .boolean) hret (by simp) rfl (hb hby d15_12) (by decide) (by decide) (⟨by simp [own_same, own_cs1 q1, own_cs2 q2, *], N69, eq69⟩)
  · skip
    rcases own_l3 p2 with q2 | q2 | q2
    · skip
      refine own_st (fun _ k => XS.iloadN X0.here hx rfl (hb hby d15_0) rfl k) ?_
      show own_go _ _ _ _ _ _ _ (s₁.setTop (mkF m 1 #[.val (.int p1), .val (.int p2)] [(.int p1)]))
      obtain ⟨v70, T70, L70, X70, hQ70, st70⟩ := own_callS X0 hx hZ (argsL := [(.int p1)]) (rest := []) (rm_len l Z a0 hw p1 h0 n0 O0) hown (hw _ (List.mem_of_getElem? (i := 7) rfl)) (hw _ (List.mem_of_getElem? (i := 8) rfl)) (hw _ (List.mem_of_getElem? (i := 5) rfl)) (hw _ (List.mem_of_getElem? (i := 9) rfl)) (by decide) e0 (g := (mkF m 1 #[.val (.int p1), .val (.int p2)] [(.int p1)])) rfl (by rw [hml]; rfl) (lenOf own_pd__28I_29I rfl) rfl (W := 0) (by show 2 * 0 + _ ≤ _; exact Nat.le_of_eq rfl) (hb hby d15_1) (by decide) (by decide) (by decide) (by decide)
      obtain ⟨rfl, Nq70, eq70⟩ := hQ70
      have N70 := Fr.app N0 Nq70
      refine own_st st70 ?_
      show own_go _ _ _ _ _ _ _ (T70.setTop (mkF m 4 #[.val (.int p1), .val (.int p2)] [(.int (own_len3 p1))]))
      rw [q1]
      show own_go _ _ _ _ _ _ _ (T70.setTop (mkF m 4 #[.val (.int p1), .val (.int p2)] [(.int (2 : Int32))]))
      refine own_st (fun _ k => XS.iloadN X70.here hx rfl (hb hby d15_4) rfl k) ?_
      show own_go _ _ _ _ _ _ _ (T70.setTop (mkF m 5 #[.val (.int p1), .val (.int p2)] [(.int p2), (.int (2 : Int32))]))
      obtain ⟨v71, T71, L71, X71, hQ71, st71⟩ := own_callS X70 hx hZ (argsL := [(.int p2)]) (rest := [(.int (2 : Int32))]) (rm_len l Z a0 hw p2 h0 n0 O0) hown (hw _ (List.mem_of_getElem? (i := 7) rfl)) (hw _ (List.mem_of_getElem? (i := 8) rfl)) (hw _ (List.mem_of_getElem? (i := 5) rfl)) (hw _ (List.mem_of_getElem? (i := 9) rfl)) (by decide) eq70 (g := (mkF m 5 #[.val (.int p1), .val (.int p2)] [(.int p2), (.int (2 : Int32))])) rfl (by rw [hml]; rfl) (lenOf own_pd__28I_29I rfl) rfl (W := 1) (by show 2 * 0 + _ ≤ _; exact Nat.le_of_eq rfl) (hb hby d15_5) (by decide) (by decide) (by decide) (by decide)
      obtain ⟨rfl, Nq71, eq71⟩ := hQ71
      have N71 := Fr.app N70 Nq71
      refine own_st st71 ?_
      show own_go _ _ _ _ _ _ _ (T71.setTop (mkF m 8 #[.val (.int p1), .val (.int p2)] [(.int (own_len3 p2)), (.int (2 : Int32))]))
      rw [q2]
      show own_go _ _ _ _ _ _ _ (T71.setTop (mkF m 8 #[.val (.int p1), .val (.int p2)] [(.int (0 : Int32)), (.int (2 : Int32))]))
      refine own_st (fun _ k => XS.icmpNo X71.here hx rfl (hb hby d15_8) rfl (by decide) k) ?_
      show own_go _ _ _ _ _ _ _ (T71.setTop (mkF m 11 #[.val (.int p1), .val (.int p2)] []))
      refine own_st (fun _ k => XS.iconst X71.here hx rfl (hb hby d15_11) k) ?_
      show own_go _ _ _ _ _ _ _ (T71.setTop (mkF m 12 #[.val (.int p1), .val (.int p2)] [(.int (0 : Int32))]))
      exact own_retN X71 hx hlk (t := .boolean) hret (by simp) rfl (hb hby d15_12) (by decide) (by decide) (⟨by simp [own_same, own_cs2 q1, own_cs0 q2, *], N71, eq71⟩)
    · skip
      refine own_st (fun _ k => XS.iloadN X0.here hx rfl (hb hby d15_0) rfl k) ?_
      show own_go _ _ _ _ _ _ _ (s₁.setTop (mkF m 1 #[.val (.int p1), .val (.int p2)] [(.int p1)]))
      obtain ⟨v72, T72, L72, X72, hQ72, st72⟩ := own_callS X0 hx hZ (argsL := [(.int p1)]) (rest := []) (rm_len l Z a0 hw p1 h0 n0 O0) hown (hw _ (List.mem_of_getElem? (i := 7) rfl)) (hw _ (List.mem_of_getElem? (i := 8) rfl)) (hw _ (List.mem_of_getElem? (i := 5) rfl)) (hw _ (List.mem_of_getElem? (i := 9) rfl)) (by decide) e0 (g := (mkF m 1 #[.val (.int p1), .val (.int p2)] [(.int p1)])) rfl (by rw [hml]; rfl) (lenOf own_pd__28I_29I rfl) rfl (W := 0) (by show 2 * 0 + _ ≤ _; exact Nat.le_of_eq rfl) (hb hby d15_1) (by decide) (by decide) (by decide) (by decide)
      obtain ⟨rfl, Nq72, eq72⟩ := hQ72
      have N72 := Fr.app N0 Nq72
      refine own_st st72 ?_
      show own_go _ _ _ _ _ _ _ (T72.setTop (mkF m 4 #[.val (.int p1), .val (.int p2)] [(.int (own_len3 p1))]))
      rw [q1]
      show own_go _ _ _ _ _ _ _ (T72.setTop (mkF m 4 #[.val (.int p1), .val (.int p2)] [(.int (2 : Int32))]))
      refine own_st (fun _ k => XS.iloadN X72.here hx rfl (hb hby d15_4) rfl k) ?_
      show own_go _ _ _ _ _ _ _ (T72.setTop (mkF m 5 #[.val (.int p1), .val (.int p2)] [(.int p2), (.int (2 : Int32))]))
      obtain ⟨v73, T73, L73, X73, hQ73, st73⟩ := own_callS X72 hx hZ (argsL := [(.int p2)]) (rest := [(.int (2 : Int32))]) (rm_len l Z a0 hw p2 h0 n0 O0) hown (hw _ (List.mem_of_getElem? (i := 7) rfl)) (hw _ (List.mem_of_getElem? (i := 8) rfl)) (hw _ (List.mem_of_getElem? (i := 5) rfl)) (hw _ (List.mem_of_getElem? (i := 9) rfl)) (by decide) eq72 (g := (mkF m 5 #[.val (.int p1), .val (.int p2)] [(.int p2), (.int (2 : Int32))])) rfl (by rw [hml]; rfl) (lenOf own_pd__28I_29I rfl) rfl (W := 1) (by show 2 * 0 + _ ≤ _; exact Nat.le_of_eq rfl) (hb hby d15_5) (by decide) (by decide) (by decide) (by decide)
      obtain ⟨rfl, Nq73, eq73⟩ := hQ73
      have N73 := Fr.app N72 Nq73
      refine own_st st73 ?_
      show own_go _ _ _ _ _ _ _ (T73.setTop (mkF m 8 #[.val (.int p1), .val (.int p2)] [(.int (own_len3 p2)), (.int (2 : Int32))]))
      rw [q2]
      show own_go _ _ _ _ _ _ _ (T73.setTop (mkF m 8 #[.val (.int p1), .val (.int p2)] [(.int (1 : Int32)), (.int (2 : Int32))]))
      refine own_st (fun _ k => XS.icmpNo X73.here hx rfl (hb hby d15_8) rfl (by decide) k) ?_
      show own_go _ _ _ _ _ _ _ (T73.setTop (mkF m 11 #[.val (.int p1), .val (.int p2)] []))
      refine own_st (fun _ k => XS.iconst X73.here hx rfl (hb hby d15_11) k) ?_
      show own_go _ _ _ _ _ _ _ (T73.setTop (mkF m 12 #[.val (.int p1), .val (.int p2)] [(.int (0 : Int32))]))
      exact own_retN X73 hx hlk (t := .boolean) hret (by simp) rfl (hb hby d15_12) (by decide) (by decide) (⟨by simp [own_same, own_cs2 q1, own_cs1 q2, *], N73, eq73⟩)
    · skip
      refine own_st (fun _ k => XS.iloadN X0.here hx rfl (hb hby d15_0) rfl k) ?_
      show own_go _ _ _ _ _ _ _ (s₁.setTop (mkF m 1 #[.val (.int p1), .val (.int p2)] [(.int p1)]))
      obtain ⟨v74, T74, L74, X74, hQ74, st74⟩ := own_callS X0 hx hZ (argsL := [(.int p1)]) (rest := []) (rm_len l Z a0 hw p1 h0 n0 O0) hown (hw _ (List.mem_of_getElem? (i := 7) rfl)) (hw _ (List.mem_of_getElem? (i := 8) rfl)) (hw _ (List.mem_of_getElem? (i := 5) rfl)) (hw _ (List.mem_of_getElem? (i := 9) rfl)) (by decide) e0 (g := (mkF m 1 #[.val (.int p1), .val (.int p2)] [(.int p1)])) rfl (by rw [hml]; rfl) (lenOf own_pd__28I_29I rfl) rfl (W := 0) (by show 2 * 0 + _ ≤ _; exact Nat.le_of_eq rfl) (hb hby d15_1) (by decide) (by decide) (by decide) (by decide)
      obtain ⟨rfl, Nq74, eq74⟩ := hQ74
      have N74 := Fr.app N0 Nq74
      refine own_st st74 ?_
      show own_go _ _ _ _ _ _ _ (T74.setTop (mkF m 4 #[.val (.int p1), .val (.int p2)] [(.int (own_len3 p1))]))
      rw [q1]
      show own_go _ _ _ _ _ _ _ (T74.setTop (mkF m 4 #[.val (.int p1), .val (.int p2)] [(.int (2 : Int32))]))
      refine own_st (fun _ k => XS.iloadN X74.here hx rfl (hb hby d15_4) rfl k) ?_
      show own_go _ _ _ _ _ _ _ (T74.setTop (mkF m 5 #[.val (.int p1), .val (.int p2)] [(.int p2), (.int (2 : Int32))]))
      obtain ⟨v75, T75, L75, X75, hQ75, st75⟩ := own_callS X74 hx hZ (argsL := [(.int p2)]) (rest := [(.int (2 : Int32))]) (rm_len l Z a0 hw p2 h0 n0 O0) hown (hw _ (List.mem_of_getElem? (i := 7) rfl)) (hw _ (List.mem_of_getElem? (i := 8) rfl)) (hw _ (List.mem_of_getElem? (i := 5) rfl)) (hw _ (List.mem_of_getElem? (i := 9) rfl)) (by decide) eq74 (g := (mkF m 5 #[.val (.int p1), .val (.int p2)] [(.int p2), (.int (2 : Int32))])) rfl (by rw [hml]; rfl) (lenOf own_pd__28I_29I rfl) rfl (W := 1) (by show 2 * 0 + _ ≤ _; exact Nat.le_of_eq rfl) (hb hby d15_5) (by decide) (by decide) (by decide) (by decide)
      obtain ⟨rfl, Nq75, eq75⟩ := hQ75
      have N75 := Fr.app N74 Nq75
      refine own_st st75 ?_
      show own_go _ _ _ _ _ _ _ (T75.setTop (mkF m 8 #[.val (.int p1), .val (.int p2)] [(.int (own_len3 p2)), (.int (2 : Int32))]))
      rw [q2]
      show own_go _ _ _ _ _ _ _ (T75.setTop (mkF m 8 #[.val (.int p1), .val (.int p2)] [(.int (2 : Int32)), (.int (2 : Int32))]))
      refine own_st (fun _ k => XS.icmpYes X75.here hx rfl (pc0 := 8) (pc' := 13) rfl (hb hby d15_8) rfl (by decide) (by decide) (by decide) k) ?_
      show own_go _ _ _ _ _ _ _ (T75.setTop (mkF m 13 #[.val (.int p1), .val (.int p2)] []))
      refine own_st (fun _ k => XS.iloadN X75.here hx rfl (hb hby d15_13) rfl k) ?_
      show own_go _ _ _ _ _ _ _ (T75.setTop (mkF m 14 #[.val (.int p1), .val (.int p2)] [(.int p1)]))
      obtain ⟨v76, T76, L76, X76, hQ76, st76⟩ := own_callS X75 hx hZ (argsL := [(.int p1)]) (rest := []) (rm_len l Z a0 hw p1 h0 n0 O0) hown (hw _ (List.mem_of_getElem? (i := 7) rfl)) (hw _ (List.mem_of_getElem? (i := 8) rfl)) (hw _ (List.mem_of_getElem? (i := 5) rfl)) (hw _ (List.mem_of_getElem? (i := 9) rfl)) (by decide) eq75 (g := (mkF m 14 #[.val (.int p1), .val (.int p2)] [(.int p1)])) rfl (by rw [hml]; rfl) (lenOf own_pd__28I_29I rfl) rfl (W := 0) (by show 2 * 0 + _ ≤ _; exact Nat.le_of_eq rfl) (hb hby d15_14) (by decide) (by decide) (by decide) (by decide)
      obtain ⟨rfl, Nq76, eq76⟩ := hQ76
      have N76 := Fr.app N75 Nq76
      refine own_st st76 ?_
      show own_go _ _ _ _ _ _ _ (T76.setTop (mkF m 17 #[.val (.int p1), .val (.int p2)] [(.int (own_len3 p1))]))
      rw [q1]
      show own_go _ _ _ _ _ _ _ (T76.setTop (mkF m 17 #[.val (.int p1), .val (.int p2)] [(.int (2 : Int32))]))
      refine own_st (fun _ k => XS.iconst X76.here hx rfl (hb hby d15_17) k) ?_
      show own_go _ _ _ _ _ _ _ (T76.setTop (mkF m 18 #[.val (.int p1), .val (.int p2)] [(.int (1 : Int32)), (.int (2 : Int32))]))
      refine own_st (fun _ k => XS.icmpNo X76.here hx rfl (hb hby d15_18) rfl (by decide) k) ?_
      show own_go _ _ _ _ _ _ _ (T76.setTop (mkF m 21 #[.val (.int p1), .val (.int p2)] []))
      refine own_st (fun _ k => XS.iloadN X76.here hx rfl (hb hby d15_21) rfl k) ?_
      show own_go _ _ _ _ _ _ _ (T76.setTop (mkF m 22 #[.val (.int p1), .val (.int p2)] [(.int p1)]))
      obtain ⟨v77, T77, L77, X77, hQ77, st77⟩ := own_callS X76 hx hZ (argsL := [(.int p1)]) (rest := []) (rm_c0 l Z a0 hw p1 h0 n0 O0) hown (hw _ (List.mem_of_getElem? (i := 59) rfl)) (hw _ (List.mem_of_getElem? (i := 60) rfl)) (hw _ (List.mem_of_getElem? (i := 5) rfl)) (hw _ (List.mem_of_getElem? (i := 61) rfl)) (by decide) eq76 (g := (mkF m 22 #[.val (.int p1), .val (.int p2)] [(.int p1)])) rfl (by rw [hml]; rfl) (lenOf own_pd__28I_29C rfl) rfl (W := 0) (by show 2 * 0 + _ ≤ _; exact Nat.le_of_eq rfl) (hb hby d15_22) (by decide) (by decide) (by decide) (by decide)
      obtain ⟨rfl, Nq77, eq77⟩ := hQ77
      have N77 := Fr.app N76 Nq77
      refine own_st st77 ?_
      show own_go _ _ _ _ _ _ _ (T77.setTop (mkF m 25 #[.val (.int p1), .val (.int p2)] [(.int (own_c0 p1))]))
      refine own_st (fun _ k => XS.iloadN X77.here hx rfl (hb hby d15_25) rfl k) ?_
      show own_go _ _ _ _ _ _ _ (T77.setTop (mkF m 26 #[.val (.int p1), .val (.int p2)] [(.int p2), (.int (own_c0 p1))]))
      obtain ⟨v78, T78, L78, X78, hQ78, st78⟩ := own_callS X77 hx hZ (argsL := [(.int p2)]) (rest := [(.int (own_c0 p1))]) (rm_c0 l Z a0 hw p2 h0 n0 O0) hown (hw _ (List.mem_of_getElem? (i := 59) rfl)) (hw _ (List.mem_of_getElem? (i := 60) rfl)) (hw _ (List.mem_of_getElem? (i := 5) rfl)) (hw _ (List.mem_of_getElem? (i := 61) rfl)) (by decide) eq77 (g := (mkF m 26 #[.val (.int p1), .val (.int p2)] [(.int p2), (.int (own_c0 p1))])) rfl (by rw [hml]; rfl) (lenOf own_pd__28I_29C rfl) rfl (W := 1) (by show 2 * 0 + _ ≤ _; exact Nat.le_of_eq rfl) (hb hby d15_26) (by decide) (by decide) (by decide) (by decide)
      obtain ⟨rfl, Nq78, eq78⟩ := hQ78
      have N78 := Fr.app N77 Nq78
      refine own_st st78 ?_
      show own_go _ _ _ _ _ _ _ (T78.setTop (mkF m 29 #[.val (.int p1), .val (.int p2)] [(.int (own_c0 p2)), (.int (own_c0 p1))]))
      by_cases hc79 : (own_c0 p1) = (own_c0 p2)
      · skip
        refine own_st (fun _ k => XS.icmpYes X78.here hx rfl (pc0 := 29) (pc' := 34) rfl (hb hby d15_29) rfl (XT.ii_eq_t hc79) (by decide) (by decide) k) ?_
        show own_go _ _ _ _ _ _ _ (T78.setTop (mkF m 34 #[.val (.int p1), .val (.int p2)] []))
        refine own_st (fun _ k => XS.iloadN X78.here hx rfl (hb hby d15_34) rfl k) ?_
        show own_go _ _ _ _ _ _ _ (T78.setTop (mkF m 35 #[.val (.int p1), .val (.int p2)] [(.int p1)]))
        obtain ⟨v80, T80, L80, X80, hQ80, st80⟩ := own_callS X78 hx hZ (argsL := [(.int p1)]) (rest := []) (rm_len l Z a0 hw p1 h0 n0 O0) hown (hw _ (List.mem_of_getElem? (i := 7) rfl)) (hw _ (List.mem_of_getElem? (i := 8) rfl)) (hw _ (List.mem_of_getElem? (i := 5) rfl)) (hw _ (List.mem_of_getElem? (i := 9) rfl)) (by decide) eq78 (g := (mkF m 35 #[.val (.int p1), .val (.int p2)] [(.int p1)])) rfl (by rw [hml]; rfl) (lenOf own_pd__28I_29I rfl) rfl (W := 0) (by show 2 * 0 + _ ≤ _; exact Nat.le_of_eq rfl) (hb hby d15_35) (by decide) (by decide) (by decide) (by decide)
        obtain ⟨rfl, Nq80, eq80⟩ := hQ80
        have N80 := Fr.app N78 Nq80
        refine own_st st80 ?_
        show own_go _ _ _ _ _ _ _ (T80.setTop (mkF m 38 #[.val (.int p1), .val (.int p2)] [(.int (own_len3 p1))]))
        rw [q1]
        show own_go _ _ _ _ _ _ _ (T80.setTop (mkF m 38 #[.val (.int p1), .val (.int p2)] [(.int (2 : Int32))]))
        refine own_st (fun _ k => XS.iconst X80.here hx rfl (hb hby d15_38) k) ?_
        show own_go _ _ _ _ _ _ _ (T80.setTop (mkF m 39 #[.val (.int p1), .val (.int p2)] [(.int (2 : Int32)), (.int (2 : Int32))]))
        refine own_st (fun _ k => XS.icmpNo X80.here hx rfl (hb hby d15_39) rfl (by decide) k) ?_
        show own_go _ _ _ _ _ _ _ (T80.setTop (mkF m 42 #[.val (.int p1), .val (.int p2)] []))
        refine own_st (fun _ k => XS.iloadN X80.here hx rfl (hb hby d15_42) rfl k) ?_
        show own_go _ _ _ _ _ _ _ (T80.setTop (mkF m 43 #[.val (.int p1), .val (.int p2)] [(.int p1)]))
        obtain ⟨v81, T81, L81, X81, hQ81, st81⟩ := own_callS X80 hx hZ (argsL := [(.int p1)]) (rest := []) (rm_c1 l Z a0 hw p1 h0 n0 O0) hown (hw _ (List.mem_of_getElem? (i := 62) rfl)) (hw _ (List.mem_of_getElem? (i := 63) rfl)) (hw _ (List.mem_of_getElem? (i := 5) rfl)) (hw _ (List.mem_of_getElem? (i := 64) rfl)) (by decide) eq80 (g := (mkF m 43 #[.val (.int p1), .val (.int p2)] [(.int p1)])) rfl (by rw [hml]; rfl) (lenOf own_pd__28I_29C rfl) rfl (W := 0) (by show 2 * 0 + _ ≤ _; exact Nat.le_of_eq rfl) (hb hby d15_43) (by decide) (by decide) (by decide) (by decide)
        obtain ⟨rfl, Nq81, eq81⟩ := hQ81
        have N81 := Fr.app N80 Nq81
        refine own_st st81 ?_
        show own_go _ _ _ _ _ _ _ (T81.setTop (mkF m 46 #[.val (.int p1), .val (.int p2)] [(.int (own_c1 p1))]))
        refine own_st (fun _ k => XS.iloadN X81.here hx rfl (hb hby d15_46) rfl k) ?_
        show own_go _ _ _ _ _ _ _ (T81.setTop (mkF m 47 #[.val (.int p1), .val (.int p2)] [(.int p2), (.int (own_c1 p1))]))
        obtain ⟨v82, T82, L82, X82, hQ82, st82⟩ := own_callS X81 hx hZ (argsL := [(.int p2)]) (rest := [(.int (own_c1 p1))]) (rm_c1 l Z a0 hw p2 h0 n0 O0) hown (hw _ (List.mem_of_getElem? (i := 62) rfl)) (hw _ (List.mem_of_getElem? (i := 63) rfl)) (hw _ (List.mem_of_getElem? (i := 5) rfl)) (hw _ (List.mem_of_getElem? (i := 64) rfl)) (by decide) eq81 (g := (mkF m 47 #[.val (.int p1), .val (.int p2)] [(.int p2), (.int (own_c1 p1))])) rfl (by rw [hml]; rfl) (lenOf own_pd__28I_29C rfl) rfl (W := 1) (by show 2 * 0 + _ ≤ _; exact Nat.le_of_eq rfl) (hb hby d15_47) (by decide) (by decide) (by decide) (by decide)
        obtain ⟨rfl, Nq82, eq82⟩ := hQ82
        have N82 := Fr.app N81 Nq82
        refine own_st st82 ?_
        show own_go _ _ _ _ _ _ _ (T82.setTop (mkF m 50 #[.val (.int p1), .val (.int p2)] [(.int (own_c1 p2)), (.int (own_c1 p1))]))
        by_cases hc83 : (own_c1 p1) = (own_c1 p2)
        · skip
          refine own_st (fun _ k => XS.icmpYes X82.here hx rfl (pc0 := 50) (pc' := 55) rfl (hb hby d15_50) rfl (XT.ii_eq_t hc83) (by decide) (by decide) k) ?_
          show own_go _ _ _ _ _ _ _ (T82.setTop (mkF m 55 #[.val (.int p1), .val (.int p2)] []))
          refine own_st (fun _ k => XS.iconst X82.here hx rfl (hb hby d15_55) k) ?_
          show own_go _ _ _ _ _ _ _ (T82.setTop (mkF m 56 #[.val (.int p1), .val (.int p2)] [(.int (1 : Int32))]))
          exact own_retN X82 hx hlk (t := .boolean) hret (by simp) rfl (hb hby d15_56) (by decide) (by decide) (⟨by simp [own_same, own_cs2 q1, own_cs2 q2, *], N82, eq82⟩)
        · skip
          refine own_st (fun _ k => XS.icmpNo X82.here hx rfl (hb hby d15_50) rfl (XT.ii_eq_f hc83) k) ?_
          show own_go _ _ _ _ _ _ _ (T82.setTop (mkF m 53 #[.val (.int p1), .val (.int p2)] []))
          refine own_st (fun _ k => XS.iconst X82.here hx rfl (hb hby d15_53) k) ?_
          show own_go _ _ _ _ _ _ _ (T82.setTop (mkF m 54 #[.val (.int p1), .val (.int p2)] [(.int (0 : Int32))]))
          exact own_retN X82 hx hlk (t := .boolean) hret (by simp) rfl (hb hby d15_54) (by decide) (by decide) (⟨by simp [own_same, own_cs2 q1, own_cs2 q2, *], N82, eq82⟩)
      · skip
        refine own_st (fun _ k => XS.icmpNo X78.here hx rfl (hb hby d15_29) rfl (XT.ii_eq_f hc79) k) ?_
        show own_go _ _ _ _ _ _ _ (T78.setTop (mkF m 32 #[.val (.int p1), .val (.int p2)] []))
        refine own_st (fun _ k => XS.iconst X78.here hx rfl (hb hby d15_32) k) ?_
        show own_go _ _ _ _ _ _ _ (T78.setTop (mkF m 33 #[.val (.int p1), .val (.int p2)] [(.int (0 : Int32))]))
        exact own_retN X78 hx hlk (t := .boolean) hret (by simp) rfl (hb hby d15_33) (by decide) (by decide) (⟨by simp [own_same, own_cs2 q1, own_cs2 q2, *], N78, eq78⟩)
theorem d7_0 : decode jdk_30_method_1_code 0 = .ok (.aload_n 0, 1) := by decide +kernel
theorem d7_1 : decode jdk_30_method_1_code 1 = .ok (.invokespecial 1, 3) := by decide +kernel
theorem d7_4 : decode jdk_30_method_1_code 4 = .ok (.return_, 1) := by decide +kernel
theorem own_pn_7 : plainFor (⟨"java/lang/Record", "<init>", "()V"⟩ : MethodName) = true := plainFor_of_name (show plainName "java/lang/Record" = true by first | (simp [plainName, overriddenIn]; done) | decide +kernel)
theorem own_ef_rm_rec (m : MethodId) (a1 : Addr) : entryFrame m #[(.ref a1)] 1 = mkF m 0 #[.val (.ref a1)] [] := by first | (simp [entryFrame, mkF, argsToLocals, Value.category]; done) | rfl
set_option maxRecDepth 65536 in
set_option maxHeartbeats 40000000 in
theorem rm_rec (l : Launch) (Z : State) (a0 : Array Value) (hw : ∀ d ∈ tables_1, d.before a0 Z = true) (a1 : Addr) (h0 : Heap) (n0 : Nat) (O0 : Old Z n0 h0)  :
    own_Met l Z (⟨"java/lang/Record", "<init>", "()V"⟩ : MethodName) jdk_30_method_1_code 1 none [] ({ frames := 1, cells := 0, slots := 0, locals := 12 } : Room) #[(.ref a1)] h0 (fun v h L => v = none ∧ Fr n0 L ∧ h = h0) := by
  refine own_body own_pn_7 ?_
  intro p e s m below meth c s₁ hx hby hml hown hnm hret hlk X0 hZ e0
  replace hown : s.vm.findClass "java/lang/Record" = some m.cls := hown
  have N0 := Fr.nil n0
  have K0 := Keep.refl h0 []
  refine own_st (fun _ k => castTop (own_ef_rm_rec m a1) k) ?_
  show own_go _ _ _ _ _ _ _ (s₁.setTop (mkF m 0 #[.val (.ref a1)] []))
  refine own_st (fun _ k => XS.aloadN X0.here hx rfl (hb hby d7_0) rfl rfl k) ?_
  show own_go _ _ _ _ _ _ _ (s₁.setTop (mkF m 1 #[.val (.ref a1)] [(.ref a1)]))
  obtain ⟨T85, X85, e85, st85⟩ := initO X0 hx hZ hown (hw _ (List.mem_of_getElem? (i := 41) rfl)) (hw _ (List.mem_of_getElem? (i := 22) rfl)) (hw _ (List.mem_of_getElem? (i := 23) rfl)) e0 (g := (mkF m 1 #[.val (.ref a1)] [(.ref a1)])) rfl (by rw [hml]; rfl) rfl (hb hby d7_1) (by decide) (W := 0) (by show 2 * 0 + _ ≤ _; exact Nat.le_of_eq rfl) (by decide)
  refine own_st st85 ?_
  show own_go _ _ _ _ _ _ _ (T85.setTop (mkF m 4 #[.val (.ref a1)] []))
  exact own_ret0 X85 hx hlk hret (hb hby d7_4) (by decide) (by decide) (⟨rfl, N0, e85⟩)
theorem d6_0 : decode prog_14_method_1_code 0 = .ok (.aload_n 0, 1) := by decide +kernel
theorem d6_1 : decode prog_14_method_1_code 1 = .ok (.invokespecial 1, 3) := by decide +kernel
theorem d6_4 : decode prog_14_method_1_code 4 = .ok (.aload_n 0, 1) := by decide +kernel
theorem d6_5 : decode prog_14_method_1_code 5 = .ok (.aload_n 1, 1) := by decide +kernel
theorem d6_6 : decode prog_14_method_1_code 6 = .ok (.putfield 7, 3) := by decide +kernel
theorem d6_9 : decode prog_14_method_1_code 9 = .ok (.aload_n 0, 1) := by decide +kernel
theorem d6_10 : decode prog_14_method_1_code 10 = .ok (.aload_n 2, 1) := by decide +kernel
theorem d6_11 : decode prog_14_method_1_code 11 = .ok (.putfield 13, 3) := by decide +kernel
theorem d6_14 : decode prog_14_method_1_code 14 = .ok (.aload_n 0, 1) := by decide +kernel
theorem d6_15 : decode prog_14_method_1_code 15 = .ok (.lload_n 3, 1) := by decide +kernel
theorem d6_16 : decode prog_14_method_1_code 16 = .ok (.putfield 16, 3) := by decide +kernel
theorem d6_19 : decode prog_14_method_1_code 19 = .ok (.aload_n 0, 1) := by decide +kernel
theorem d6_20 : decode prog_14_method_1_code 20 = .ok (.lload 5, 2) := by decide +kernel
theorem d6_22 : decode prog_14_method_1_code 22 = .ok (.putfield 20, 3) := by decide +kernel
theorem d6_25 : decode prog_14_method_1_code 25 = .ok (.aload_n 0, 1) := by decide +kernel
theorem d6_26 : decode prog_14_method_1_code 26 = .ok (.lload 7, 2) := by decide +kernel
theorem d6_28 : decode prog_14_method_1_code 28 = .ok (.putfield 23, 3) := by decide +kernel
theorem d6_31 : decode prog_14_method_1_code 31 = .ok (.aload_n 0, 1) := by decide +kernel
theorem d6_32 : decode prog_14_method_1_code 32 = .ok (.iload 9, 2) := by decide +kernel
theorem d6_34 : decode prog_14_method_1_code 34 = .ok (.putfield 26, 3) := by decide +kernel
theorem d6_37 : decode prog_14_method_1_code 37 = .ok (.aload_n 0, 1) := by decide +kernel
theorem d6_38 : decode prog_14_method_1_code 38 = .ok (.iload 10, 2) := by decide +kernel
theorem d6_40 : decode prog_14_method_1_code 40 = .ok (.putfield 30, 3) := by decide +kernel
theorem d6_43 : decode prog_14_method_1_code 43 = .ok (.return_, 1) := by decide +kernel
theorem own_pn_6 : plainFor (⟨"com/example/usher/usher/OutboxRuns$Found", "<init>", "(Ljava/lang/String;Ljava/lang/String;JJJZZ)V"⟩ : MethodName) = true := plainFor_of_name (show plainName "com/example/usher/usher/OutboxRuns$Found" = true by first | (simp [plainName, overriddenIn]; done) | decide +kernel)
theorem own_pd__28_29V : parseMethodDescriptor "()V" = some ⟨[], none⟩ := by decide +kernel
theorem own_ef_rm_finit (m : MethodId) (a1 : Addr) (a2 : Addr) (a3 : Addr) (q4 : Int64) (q5 : Int64) (q6 : Int64) (p7 : Int32) (p8 : Int32) : entryFrame m #[(.ref a1), (.ref a2), (.ref a3), (.long q4), (.long q5), (.long q6), (.int p7), (.int p8)] 11 = mkF m 0 #[.val (.ref a1), .val (.ref a2), .val (.ref a3), .val (.long q4), .second, .val (.long q5), .second, .val (.long q6), .second, .val (.int p7), .val (.int p8)] [] := by first | (simp [entryFrame, mkF, argsToLocals, Value.category]; done) | rfl
set_option maxRecDepth 65536 in
set_option maxHeartbeats 40000000 in
theorem rm_finit (l : Launch) (Z : State) (a0 : Array Value) (hw : ∀ d ∈ tables_1, d.before a0 Z = true) (a1 a2 a3 : Addr) (q4 q5 q6 : Int64) (p7 p8 : Int32) (h0 : Heap) (n0 : Nat) (O0 : Old Z n0 h0) (hz7 : p7 = 0 ∨ p7 = 1) (hz8 : p8 = 0 ∨ p8 = 1) (ge_a1 : n0 ≤ a1) (E_a1 : Exa Z h0 a1 "com/example/usher/usher/OutboxRuns$Found") (F_a1_aggregateType : Fld Z h0 a1 "com/example/usher/usher/OutboxRuns$Found" "aggregateType" "Ljava/lang/String;" .null) (F_a1_aggregateId : Fld Z h0 a1 "com/example/usher/usher/OutboxRuns$Found" "aggregateId" "Ljava/lang/String;" .null) (F_a1_first : Fld Z h0 a1 "com/example/usher/usher/OutboxRuns$Found" "first" "J" (.long (0 : Int64))) (F_a1_last : Fld Z h0 a1 "com/example/usher/usher/OutboxRuns$Found" "last" "J" (.long (0 : Int64))) (F_a1_rows : Fld Z h0 a1 "com/example/usher/usher/OutboxRuns$Found" "rows" "J" (.long (0 : Int64))) (F_a1_firstRead : Fld Z h0 a1 "com/example/usher/usher/OutboxRuns$Found" "firstRead" "Z" (.int (0 : Int32))) (F_a1_reachesEnd : Fld Z h0 a1 "com/example/usher/usher/OutboxRuns$Found" "reachesEnd" "Z" (.int (0 : Int32))) :
    own_Met l Z (⟨"com/example/usher/usher/OutboxRuns$Found", "<init>", "(Ljava/lang/String;Ljava/lang/String;JJJZZ)V"⟩ : MethodName) prog_14_method_1_code 11 none [] ({ frames := 2, cells := 0, slots := 0, locals := 24 } : Room) #[(.ref a1), (.ref a2), (.ref a3), (.long q4), (.long q5), (.long q6), (.int p7), (.int p8)] h0 (fun v h L => v = none ∧ Fr n0 L ∧ Keep h0 h [a1] ∧ Fld Z h a1 "com/example/usher/usher/OutboxRuns$Found" "aggregateType" "Ljava/lang/String;" (.ref a2) ∧ Fld Z h a1 "com/example/usher/usher/OutboxRuns$Found" "aggregateId" "Ljava/lang/String;" (.ref a3) ∧ Fld Z h a1 "com/example/usher/usher/OutboxRuns$Found" "firstRead" "Z" (.int p7)) := by
  refine own_body own_pn_6 ?_
  intro p e s m below meth c s₁ hx hby hml hown hnm hret hlk X0 hZ e0
  replace hown : s.vm.findClass "com/example/usher/usher/OutboxRuns$Found" = some m.cls := hown
  have N0 := Fr.nil n0
  have K0 := Keep.refl h0 [a1]
  refine own_st (fun _ k => castTop (own_ef_rm_finit m a1 a2 a3 q4 q5 q6 p7 p8) k) ?_
  show own_go _ _ _ _ _ _ _ (s₁.setTop (mkF m 0 #[.val (.ref a1), .val (.ref a2), .val (.ref a3), .val (.long q4), .second, .val (.long q5), .second, .val (.long q6), .second, .val (.int p7), .val (.int p8)] []))
  refine own_st (fun _ k => XS.aloadN X0.here hx rfl (hb hby d6_0) rfl rfl k) ?_
  show own_go _ _ _ _ _ _ _ (s₁.setTop (mkF m 1 #[.val (.ref a1), .val (.ref a2), .val (.ref a3), .val (.long q4), .second, .val (.long q5), .second, .val (.long q6), .second, .val (.int p7), .val (.int p8)] [(.ref a1)]))
  obtain ⟨v86, T86, L86, X86, hQ86, st86⟩ := own_callN X0 hx hZ (argsL := []) (rest := []) (rm_rec l Z a0 hw a1 h0 n0 O0) rfl hown (hw _ (List.mem_of_getElem? (i := 36) rfl)) (hw _ (List.mem_of_getElem? (i := 37) rfl)) (hw _ (List.mem_of_getElem? (i := 39) rfl)) (hw _ (List.mem_of_getElem? (i := 40) rfl)) (by decide) e0 (g := (mkF m 1 #[.val (.ref a1), .val (.ref a2), .val (.ref a3), .val (.long q4), .second, .val (.long q5), .second, .val (.long q6), .second, .val (.int p7), .val (.int p8)] [(.ref a1)])) rfl (by rw [hml]; rfl) (lenOf own_pd__28_29V rfl) rfl (W := 0) (by show 2 * 0 + _ ≤ _; exact Nat.le_of_eq rfl) (hb hby d6_1) (by decide) (by decide) (by decide) (by decide)
  obtain ⟨rfl, Nq86, eq86⟩ := hQ86
  have N86 := Fr.app N0 Nq86
  refine own_st st86 ?_
  show own_go _ _ _ _ _ _ _ (T86.setTop (mkF m 4 #[.val (.ref a1), .val (.ref a2), .val (.ref a3), .val (.long q4), .second, .val (.long q5), .second, .val (.long q6), .second, .val (.int p7), .val (.int p8)] []))
  refine own_st (fun _ k => XS.aloadN X86.here hx rfl (hb hby d6_4) rfl rfl k) ?_
  show own_go _ _ _ _ _ _ _ (T86.setTop (mkF m 5 #[.val (.ref a1), .val (.ref a2), .val (.ref a3), .val (.long q4), .second, .val (.long q5), .second, .val (.long q6), .second, .val (.int p7), .val (.int p8)] [(.ref a1)]))
  refine own_st (fun _ k => XS.aloadN X86.here hx rfl (hb hby d6_5) rfl rfl k) ?_
  show own_go _ _ _ _ _ _ _ (T86.setTop (mkF m 6 #[.val (.ref a1), .val (.ref a2), .val (.ref a3), .val (.long q4), .second, .val (.long q5), .second, .val (.long q6), .second, .val (.int p7), .val (.int p8)] [(.ref a2), (.ref a1)]))
  obtain ⟨T87, h87, X87, e87, W87, st87⟩ := putF X86 hx hZ hown (host := "") (Or.inl (hw _ (List.mem_of_getElem? (i := 42) rfl))) Via.refl eq86 F_a1_aggregateType E_a1 (Or.inr ⟨(hw _ (List.mem_of_getElem? (i := 43) rfl)), rfl, hnm⟩) (hw _ (List.mem_of_getElem? (i := 1) rfl)) (ty := (.object "java/lang/String")) (by decide) rfl rfl (g := (mkF m 6 #[.val (.ref a1), .val (.ref a2), .val (.ref a3), .val (.long q4), .second, .val (.long q5), .second, .val (.long q6), .second, .val (.int p7), .val (.int p8)] [(.ref a2), (.ref a1)])) rfl rfl (hb hby d6_6)
  have N87 := Fr.snoc X87 N86 ge_a1
  have O88 := O0.wr W87 ge_a1
  have K88 := K0.wr W87 (Or.inl (List.mem_of_getElem? (i := 0) rfl))
  have F87 := F_a1_aggregateType.same W87
  refine own_st st87 ?_
  show own_go _ _ _ _ _ _ _ (T87.setTop (mkF m 9 #[.val (.ref a1), .val (.ref a2), .val (.ref a3), .val (.long q4), .second, .val (.long q5), .second, .val (.long q6), .second, .val (.int p7), .val (.int p8)] []))
  refine own_st (fun _ k => XS.aloadN X87.here hx rfl (hb hby d6_9) rfl rfl k) ?_
  show own_go _ _ _ _ _ _ _ (T87.setTop (mkF m 10 #[.val (.ref a1), .val (.ref a2), .val (.ref a3), .val (.long q4), .second, .val (.long q5), .second, .val (.long q6), .second, .val (.int p7), .val (.int p8)] [(.ref a1)]))
  refine own_st (fun _ k => XS.aloadN X87.here hx rfl (hb hby d6_10) rfl rfl k) ?_
  show own_go _ _ _ _ _ _ _ (T87.setTop (mkF m 11 #[.val (.ref a1), .val (.ref a2), .val (.ref a3), .val (.long q4), .second, .val (.long q5), .second, .val (.long q6), .second, .val (.int p7), .val (.int p8)] [(.ref a3), (.ref a1)]))
  have f90 := (F_a1_aggregateId.other W87 (Or.inr (slot_ne (Or.inr (hw _ (List.mem_of_getElem? (i := 45) rfl))) (Or.inr (hw _ (List.mem_of_getElem? (i := 43) rfl))) (by decide) (t := (.object "java/lang/String")) (t' := (.object "java/lang/String")) (by decide) (by decide))))
  have f91 := (E_a1.wr W87)
  obtain ⟨T89, h89, X89, e89, W89, st89⟩ := putF X87 hx hZ hown (host := "") (Or.inl (hw _ (List.mem_of_getElem? (i := 44) rfl))) Via.refl e87 f90 f91 (Or.inr ⟨(hw _ (List.mem_of_getElem? (i := 45) rfl)), rfl, hnm⟩) (hw _ (List.mem_of_getElem? (i := 1) rfl)) (ty := (.object "java/lang/String")) (by decide) rfl rfl (g := (mkF m 11 #[.val (.ref a1), .val (.ref a2), .val (.ref a3), .val (.long q4), .second, .val (.long q5), .second, .val (.long q6), .second, .val (.int p7), .val (.int p8)] [(.ref a3), (.ref a1)])) rfl rfl (hb hby d6_11)
  have N89 := Fr.snoc X89 N87 ge_a1
  have O92 := O88.wr W89 ge_a1
  have K92 := K88.wr W89 (Or.inl (List.mem_of_getElem? (i := 0) rfl))
  have F89 := f90.same W89
  refine own_st st89 ?_
  show own_go _ _ _ _ _ _ _ (T89.setTop (mkF m 14 #[.val (.ref a1), .val (.ref a2), .val (.ref a3), .val (.long q4), .second, .val (.long q5), .second, .val (.long q6), .second, .val (.int p7), .val (.int p8)] []))
  refine own_st (fun _ k => XS.aloadN X89.here hx rfl (hb hby d6_14) rfl rfl k) ?_
  show own_go _ _ _ _ _ _ _ (T89.setTop (mkF m 15 #[.val (.ref a1), .val (.ref a2), .val (.ref a3), .val (.long q4), .second, .val (.long q5), .second, .val (.long q6), .second, .val (.int p7), .val (.int p8)] [(.ref a1)]))
  refine own_st (fun _ k => XS.lloadN X89.here hx rfl (hb hby d6_15) rfl k) ?_
  show own_go _ _ _ _ _ _ _ (T89.setTop (mkF m 16 #[.val (.ref a1), .val (.ref a2), .val (.ref a3), .val (.long q4), .second, .val (.long q5), .second, .val (.long q6), .second, .val (.int p7), .val (.int p8)] [(.long q4), (.ref a1)]))
  have f94 := ((F_a1_first.other W87 (Or.inr (slot_ne (Or.inr (hw _ (List.mem_of_getElem? (i := 47) rfl))) (Or.inr (hw _ (List.mem_of_getElem? (i := 43) rfl))) (by decide) (t := .long) (t' := (.object "java/lang/String")) (by decide) (by decide)))).other W89 (Or.inr (slot_ne (Or.inr (hw _ (List.mem_of_getElem? (i := 47) rfl))) (Or.inr (hw _ (List.mem_of_getElem? (i := 45) rfl))) (by decide) (t := .long) (t' := (.object "java/lang/String")) (by decide) (by decide))))
  have f95 := (f91.wr W89)
  obtain ⟨T93, h93, X93, e93, W93, st93⟩ := putF X89 hx hZ hown (host := "") (Or.inl (hw _ (List.mem_of_getElem? (i := 46) rfl))) Via.refl e89 f94 f95 (Or.inr ⟨(hw _ (List.mem_of_getElem? (i := 47) rfl)), rfl, hnm⟩) (hw _ (List.mem_of_getElem? (i := 1) rfl)) (ty := .long) (by decide) rfl rfl (g := (mkF m 16 #[.val (.ref a1), .val (.ref a2), .val (.ref a3), .val (.long q4), .second, .val (.long q5), .second, .val (.long q6), .second, .val (.int p7), .val (.int p8)] [(.long q4), (.ref a1)])) rfl rfl (hb hby d6_16)
  have N93 := Fr.snoc X93 N89 ge_a1
  have O96 := O92.wr W93 ge_a1
  have K96 := K92.wr W93 (Or.inl (List.mem_of_getElem? (i := 0) rfl))
  have F93 := f94.same W93
  refine own_st st93 ?_
  show own_go _ _ _ _ _ _ _ (T93.setTop (mkF m 19 #[.val (.ref a1), .val (.ref a2), .val (.ref a3), .val (.long q4), .second, .val (.long q5), .second, .val (.long q6), .second, .val (.int p7), .val (.int p8)] []))
  refine own_st (fun _ k => XS.aloadN X93.here hx rfl (hb hby d6_19) rfl rfl k) ?_
  show own_go _ _ _ _ _ _ _ (T93.setTop (mkF m 20 #[.val (.ref a1), .val (.ref a2), .val (.ref a3), .val (.long q4), .second, .val (.long q5), .second, .val (.long q6), .second, .val (.int p7), .val (.int p8)] [(.ref a1)]))
  refine own_st (fun _ k => XS.lload X93.here hx rfl (hb hby d6_20) rfl k) ?_
  show own_go _ _ _ _ _ _ _ (T93.setTop (mkF m 22 #[.val (.ref a1), .val (.ref a2), .val (.ref a3), .val (.long q4), .second, .val (.long q5), .second, .val (.long q6), .second, .val (.int p7), .val (.int p8)] [(.long q5), (.ref a1)]))
  have f98 := (((F_a1_last.other W87 (Or.inr (slot_ne (Or.inr (hw _ (List.mem_of_getElem? (i := 49) rfl))) (Or.inr (hw _ (List.mem_of_getElem? (i := 43) rfl))) (by decide) (t := .long) (t' := (.object "java/lang/String")) (by decide) (by decide)))).other W89 (Or.inr (slot_ne (Or.inr (hw _ (List.mem_of_getElem? (i := 49) rfl))) (Or.inr (hw _ (List.mem_of_getElem? (i := 45) rfl))) (by decide) (t := .long) (t' := (.object "java/lang/String")) (by decide) (by decide)))).other W93 (Or.inr (slot_ne (Or.inr (hw _ (List.mem_of_getElem? (i := 49) rfl))) (Or.inr (hw _ (List.mem_of_getElem? (i := 47) rfl))) (by decide) (t := .long) (t' := .long) (by decide) (by decide))))
  have f99 := (f95.wr W93)
  obtain ⟨T97, h97, X97, e97, W97, st97⟩ := putF X93 hx hZ hown (host := "") (Or.inl (hw _ (List.mem_of_getElem? (i := 48) rfl))) Via.refl e93 f98 f99 (Or.inr ⟨(hw _ (List.mem_of_getElem? (i := 49) rfl)), rfl, hnm⟩) (hw _ (List.mem_of_getElem? (i := 1) rfl)) (ty := .long) (by decide) rfl rfl (g := (mkF m 22 #[.val (.ref a1), .val (.ref a2), .val (.ref a3), .val (.long q4), .second, .val (.long q5), .second, .val (.long q6), .second, .val (.int p7), .val (.int p8)] [(.long q5), (.ref a1)])) rfl rfl (hb hby d6_22)
  have N97 := Fr.snoc X97 N93 ge_a1
  have O100 := O96.wr W97 ge_a1
  have K100 := K96.wr W97 (Or.inl (List.mem_of_getElem? (i := 0) rfl))
  have F97 := f98.same W97
  refine own_st st97 ?_
  show own_go _ _ _ _ _ _ _ (T97.setTop (mkF m 25 #[.val (.ref a1), .val (.ref a2), .val (.ref a3), .val (.long q4), .second, .val (.long q5), .second, .val (.long q6), .second, .val (.int p7), .val (.int p8)] []))
  refine own_st (fun _ k => XS.aloadN X97.here hx rfl (hb hby d6_25) rfl rfl k) ?_
  show own_go _ _ _ _ _ _ _ (T97.setTop (mkF m 26 #[.val (.ref a1), .val (.ref a2), .val (.ref a3), .val (.long q4), .second, .val (.long q5), .second, .val (.long q6), .second, .val (.int p7), .val (.int p8)] [(.ref a1)]))
  refine own_st (fun _ k => XS.lload X97.here hx rfl (hb hby d6_26) rfl k) ?_
  show own_go _ _ _ _ _ _ _ (T97.setTop (mkF m 28 #[.val (.ref a1), .val (.ref a2), .val (.ref a3), .val (.long q4), .second, .val (.long q5), .second, .val (.long q6), .second, .val (.int p7), .val (.int p8)] [(.long q6), (.ref a1)]))
  have f102 := ((((F_a1_rows.other W87 (Or.inr (slot_ne (Or.inr (hw _ (List.mem_of_getElem? (i := 51) rfl))) (Or.inr (hw _ (List.mem_of_getElem? (i := 43) rfl))) (by decide) (t := .long) (t' := (.object "java/lang/String")) (by decide) (by decide)))).other W89 (Or.inr (slot_ne (Or.inr (hw _ (List.mem_of_getElem? (i := 51) rfl))) (Or.inr (hw _ (List.mem_of_getElem? (i := 45) rfl))) (by decide) (t := .long) (t' := (.object "java/lang/String")) (by decide) (by decide)))).other W93 (Or.inr (slot_ne (Or.inr (hw _ (List.mem_of_getElem? (i := 51) rfl))) (Or.inr (hw _ (List.mem_of_getElem? (i := 47) rfl))) (by decide) (t := .long) (t' := .long) (by decide) (by decide)))).other W97 (Or.inr (slot_ne (Or.inr (hw _ (List.mem_of_getElem? (i := 51) rfl))) (Or.inr (hw _ (List.mem_of_getElem? (i := 49) rfl))) (by decide) (t := .long) (t' := .long) (by decide) (by decide))))
  have f103 := (f99.wr W97)
  obtain ⟨T101, h101, X101, e101, W101, st101⟩ := putF X97 hx hZ hown (host := "") (Or.inl (hw _ (List.mem_of_getElem? (i := 50) rfl))) Via.refl e97 f102 f103 (Or.inr ⟨(hw _ (List.mem_of_getElem? (i := 51) rfl)), rfl, hnm⟩) (hw _ (List.mem_of_getElem? (i := 1) rfl)) (ty := .long) (by decide) rfl rfl (g := (mkF m 28 #[.val (.ref a1), .val (.ref a2), .val (.ref a3), .val (.long q4), .second, .val (.long q5), .second, .val (.long q6), .second, .val (.int p7), .val (.int p8)] [(.long q6), (.ref a1)])) rfl rfl (hb hby d6_28)
  have N101 := Fr.snoc X101 N97 ge_a1
  have O104 := O100.wr W101 ge_a1
  have K104 := K100.wr W101 (Or.inl (List.mem_of_getElem? (i := 0) rfl))
  have F101 := f102.same W101
  refine own_st st101 ?_
  show own_go _ _ _ _ _ _ _ (T101.setTop (mkF m 31 #[.val (.ref a1), .val (.ref a2), .val (.ref a3), .val (.long q4), .second, .val (.long q5), .second, .val (.long q6), .second, .val (.int p7), .val (.int p8)] []))
  refine own_st (fun _ k => XS.aloadN X101.here hx rfl (hb hby d6_31) rfl rfl k) ?_
  show own_go _ _ _ _ _ _ _ (T101.setTop (mkF m 32 #[.val (.ref a1), .val (.ref a2), .val (.ref a3), .val (.long q4), .second, .val (.long q5), .second, .val (.long q6), .second, .val (.int p7), .val (.int p8)] [(.ref a1)]))
  refine own_st (fun _ k => XS.iload X101.here hx rfl (hb hby d6_32) rfl k) ?_
  show own_go _ _ _ _ _ _ _ (T101.setTop (mkF m 34 #[.val (.ref a1), .val (.ref a2), .val (.ref a3), .val (.long q4), .second, .val (.long q5), .second, .val (.long q6), .second, .val (.int p7), .val (.int p8)] [(.int p7), (.ref a1)]))
  have f106 := (((((F_a1_firstRead.other W87 (Or.inr (slot_ne (Or.inr (hw _ (List.mem_of_getElem? (i := 53) rfl))) (Or.inr (hw _ (List.mem_of_getElem? (i := 43) rfl))) (by decide) (t := .boolean) (t' := (.object "java/lang/String")) (by decide) (by decide)))).other W89 (Or.inr (slot_ne (Or.inr (hw _ (List.mem_of_getElem? (i := 53) rfl))) (Or.inr (hw _ (List.mem_of_getElem? (i := 45) rfl))) (by decide) (t := .boolean) (t' := (.object "java/lang/String")) (by decide) (by decide)))).other W93 (Or.inr (slot_ne (Or.inr (hw _ (List.mem_of_getElem? (i := 53) rfl))) (Or.inr (hw _ (List.mem_of_getElem? (i := 47) rfl))) (by decide) (t := .boolean) (t' := .long) (by decide) (by decide)))).other W97 (Or.inr (slot_ne (Or.inr (hw _ (List.mem_of_getElem? (i := 53) rfl))) (Or.inr (hw _ (List.mem_of_getElem? (i := 49) rfl))) (by decide) (t := .boolean) (t' := .long) (by decide) (by decide)))).other W101 (Or.inr (slot_ne (Or.inr (hw _ (List.mem_of_getElem? (i := 53) rfl))) (Or.inr (hw _ (List.mem_of_getElem? (i := 51) rfl))) (by decide) (t := .boolean) (t' := .long) (by decide) (by decide))))
  have f107 := (f103.wr W101)
  obtain ⟨T105, h105, X105, e105, W105, st105⟩ := putF X101 hx hZ hown (host := "") (Or.inl (hw _ (List.mem_of_getElem? (i := 52) rfl))) Via.refl e101 f106 f107 (Or.inr ⟨(hw _ (List.mem_of_getElem? (i := 53) rfl)), rfl, hnm⟩) (hw _ (List.mem_of_getElem? (i := 1) rfl)) (ty := .boolean) (by decide) (own_nb hz7) (own_fb hz7) (g := (mkF m 34 #[.val (.ref a1), .val (.ref a2), .val (.ref a3), .val (.long q4), .second, .val (.long q5), .second, .val (.long q6), .second, .val (.int p7), .val (.int p8)] [(.int p7), (.ref a1)])) rfl rfl (hb hby d6_34)
  have N105 := Fr.snoc X105 N101 ge_a1
  have O108 := O104.wr W105 ge_a1
  have K108 := K104.wr W105 (Or.inl (List.mem_of_getElem? (i := 0) rfl))
  have F105 := f106.same W105
  refine own_st st105 ?_
  show own_go _ _ _ _ _ _ _ (T105.setTop (mkF m 37 #[.val (.ref a1), .val (.ref a2), .val (.ref a3), .val (.long q4), .second, .val (.long q5), .second, .val (.long q6), .second, .val (.int p7), .val (.int p8)] []))
  refine own_st (fun _ k => XS.aloadN X105.here hx rfl (hb hby d6_37) rfl rfl k) ?_
  show own_go _ _ _ _ _ _ _ (T105.setTop (mkF m 38 #[.val (.ref a1), .val (.ref a2), .val (.ref a3), .val (.long q4), .second, .val (.long q5), .second, .val (.long q6), .second, .val (.int p7), .val (.int p8)] [(.ref a1)]))
  refine own_st (fun _ k => XS.iload X105.here hx rfl (hb hby d6_38) rfl k) ?_
  show own_go _ _ _ _ _ _ _ (T105.setTop (mkF m 40 #[.val (.ref a1), .val (.ref a2), .val (.ref a3), .val (.long q4), .second, .val (.long q5), .second, .val (.long q6), .second, .val (.int p7), .val (.int p8)] [(.int p8), (.ref a1)]))
  have f110 := ((((((F_a1_reachesEnd.other W87 (Or.inr (slot_ne (Or.inr (hw _ (List.mem_of_getElem? (i := 55) rfl))) (Or.inr (hw _ (List.mem_of_getElem? (i := 43) rfl))) (by decide) (t := .boolean) (t' := (.object "java/lang/String")) (by decide) (by decide)))).other W89 (Or.inr (slot_ne (Or.inr (hw _ (List.mem_of_getElem? (i := 55) rfl))) (Or.inr (hw _ (List.mem_of_getElem? (i := 45) rfl))) (by decide) (t := .boolean) (t' := (.object "java/lang/String")) (by decide) (by decide)))).other W93 (Or.inr (slot_ne (Or.inr (hw _ (List.mem_of_getElem? (i := 55) rfl))) (Or.inr (hw _ (List.mem_of_getElem? (i := 47) rfl))) (by decide) (t := .boolean) (t' := .long) (by decide) (by decide)))).other W97 (Or.inr (slot_ne (Or.inr (hw _ (List.mem_of_getElem? (i := 55) rfl))) (Or.inr (hw _ (List.mem_of_getElem? (i := 49) rfl))) (by decide) (t := .boolean) (t' := .long) (by decide) (by decide)))).other W101 (Or.inr (slot_ne (Or.inr (hw _ (List.mem_of_getElem? (i := 55) rfl))) (Or.inr (hw _ (List.mem_of_getElem? (i := 51) rfl))) (by decide) (t := .boolean) (t' := .long) (by decide) (by decide)))).other W105 (Or.inr (slot_ne (Or.inr (hw _ (List.mem_of_getElem? (i := 55) rfl))) (Or.inr (hw _ (List.mem_of_getElem? (i := 53) rfl))) (by decide) (t := .boolean) (t' := .boolean) (by decide) (by decide))))
  have f111 := (f107.wr W105)
  obtain ⟨T109, h109, X109, e109, W109, st109⟩ := putF X105 hx hZ hown (host := "") (Or.inl (hw _ (List.mem_of_getElem? (i := 54) rfl))) Via.refl e105 f110 f111 (Or.inr ⟨(hw _ (List.mem_of_getElem? (i := 55) rfl)), rfl, hnm⟩) (hw _ (List.mem_of_getElem? (i := 1) rfl)) (ty := .boolean) (by decide) (own_nb hz8) (own_fb hz8) (g := (mkF m 40 #[.val (.ref a1), .val (.ref a2), .val (.ref a3), .val (.long q4), .second, .val (.long q5), .second, .val (.long q6), .second, .val (.int p7), .val (.int p8)] [(.int p8), (.ref a1)])) rfl rfl (hb hby d6_40)
  have N109 := Fr.snoc X109 N105 ge_a1
  have O112 := O108.wr W109 ge_a1
  have K112 := K108.wr W109 (Or.inl (List.mem_of_getElem? (i := 0) rfl))
  have F109 := f110.same W109
  refine own_st st109 ?_
  show own_go _ _ _ _ _ _ _ (T109.setTop (mkF m 43 #[.val (.ref a1), .val (.ref a2), .val (.ref a3), .val (.long q4), .second, .val (.long q5), .second, .val (.long q6), .second, .val (.int p7), .val (.int p8)] []))
  have f113 := ((((((F87.other W89 (Or.inr (slot_ne (Or.inr (hw _ (List.mem_of_getElem? (i := 43) rfl))) (Or.inr (hw _ (List.mem_of_getElem? (i := 45) rfl))) (by decide) (t := (.object "java/lang/String")) (t' := (.object "java/lang/String")) (by decide) (by decide)))).other W93 (Or.inr (slot_ne (Or.inr (hw _ (List.mem_of_getElem? (i := 43) rfl))) (Or.inr (hw _ (List.mem_of_getElem? (i := 47) rfl))) (by decide) (t := (.object "java/lang/String")) (t' := .long) (by decide) (by decide)))).other W97 (Or.inr (slot_ne (Or.inr (hw _ (List.mem_of_getElem? (i := 43) rfl))) (Or.inr (hw _ (List.mem_of_getElem? (i := 49) rfl))) (by decide) (t := (.object "java/lang/String")) (t' := .long) (by decide) (by decide)))).other W101 (Or.inr (slot_ne (Or.inr (hw _ (List.mem_of_getElem? (i := 43) rfl))) (Or.inr (hw _ (List.mem_of_getElem? (i := 51) rfl))) (by decide) (t := (.object "java/lang/String")) (t' := .long) (by decide) (by decide)))).other W105 (Or.inr (slot_ne (Or.inr (hw _ (List.mem_of_getElem? (i := 43) rfl))) (Or.inr (hw _ (List.mem_of_getElem? (i := 53) rfl))) (by decide) (t := (.object "java/lang/String")) (t' := .boolean) (by decide) (by decide)))).other W109 (Or.inr (slot_ne (Or.inr (hw _ (List.mem_of_getElem? (i := 43) rfl))) (Or.inr (hw _ (List.mem_of_getElem? (i := 55) rfl))) (by decide) (t := (.object "java/lang/String")) (t' := .boolean) (by decide) (by decide))))
  have f114 := (((((F89.other W93 (Or.inr (slot_ne (Or.inr (hw _ (List.mem_of_getElem? (i := 45) rfl))) (Or.inr (hw _ (List.mem_of_getElem? (i := 47) rfl))) (by decide) (t := (.object "java/lang/String")) (t' := .long) (by decide) (by decide)))).other W97 (Or.inr (slot_ne (Or.inr (hw _ (List.mem_of_getElem? (i := 45) rfl))) (Or.inr (hw _ (List.mem_of_getElem? (i := 49) rfl))) (by decide) (t := (.object "java/lang/String")) (t' := .long) (by decide) (by decide)))).other W101 (Or.inr (slot_ne (Or.inr (hw _ (List.mem_of_getElem? (i := 45) rfl))) (Or.inr (hw _ (List.mem_of_getElem? (i := 51) rfl))) (by decide) (t := (.object "java/lang/String")) (t' := .long) (by decide) (by decide)))).other W105 (Or.inr (slot_ne (Or.inr (hw _ (List.mem_of_getElem? (i := 45) rfl))) (Or.inr (hw _ (List.mem_of_getElem? (i := 53) rfl))) (by decide) (t := (.object "java/lang/String")) (t' := .boolean) (by decide) (by decide)))).other W109 (Or.inr (slot_ne (Or.inr (hw _ (List.mem_of_getElem? (i := 45) rfl))) (Or.inr (hw _ (List.mem_of_getElem? (i := 55) rfl))) (by decide) (t := (.object "java/lang/String")) (t' := .boolean) (by decide) (by decide))))
  have f115 := (F105.other W109 (Or.inr (slot_ne (Or.inr (hw _ (List.mem_of_getElem? (i := 53) rfl))) (Or.inr (hw _ (List.mem_of_getElem? (i := 55) rfl))) (by decide) (t := .boolean) (t' := .boolean) (by decide) (by decide))))
  exact own_ret0 X109 hx hlk hret (hb hby d6_43) (by decide) (by decide) (by rw [e109]; exact ⟨rfl, N109, K112, f113, f114, f115⟩)
theorem d13_0 : decode prog_16_method_1_code 0 = .ok (.aload_n 0, 1) := by decide +kernel
theorem d13_1 : decode prog_16_method_1_code 1 = .ok (.invokespecial 1, 3) := by decide +kernel
theorem d13_4 : decode prog_16_method_1_code 4 = .ok (.aload_n 0, 1) := by decide +kernel
theorem d13_5 : decode prog_16_method_1_code 5 = .ok (.aload_n 1, 1) := by decide +kernel
theorem d13_6 : decode prog_16_method_1_code 6 = .ok (.putfield 7, 3) := by decide +kernel
theorem d13_9 : decode prog_16_method_1_code 9 = .ok (.aload_n 0, 1) := by decide +kernel
theorem d13_10 : decode prog_16_method_1_code 10 = .ok (.aload_n 2, 1) := by decide +kernel
theorem d13_11 : decode prog_16_method_1_code 11 = .ok (.putfield 13, 3) := by decide +kernel
theorem d13_14 : decode prog_16_method_1_code 14 = .ok (.aload_n 0, 1) := by decide +kernel
theorem d13_15 : decode prog_16_method_1_code 15 = .ok (.lload_n 3, 1) := by decide +kernel
theorem d13_16 : decode prog_16_method_1_code 16 = .ok (.putfield 16, 3) := by decide +kernel
theorem d13_19 : decode prog_16_method_1_code 19 = .ok (.aload_n 0, 1) := by decide +kernel
theorem d13_20 : decode prog_16_method_1_code 20 = .ok (.lload 5, 2) := by decide +kernel
theorem d13_22 : decode prog_16_method_1_code 22 = .ok (.putfield 20, 3) := by decide +kernel
theorem d13_25 : decode prog_16_method_1_code 25 = .ok (.aload_n 0, 1) := by decide +kernel
theorem d13_26 : decode prog_16_method_1_code 26 = .ok (.lload 7, 2) := by decide +kernel
theorem d13_28 : decode prog_16_method_1_code 28 = .ok (.putfield 23, 3) := by decide +kernel
theorem d13_31 : decode prog_16_method_1_code 31 = .ok (.return_, 1) := by decide +kernel
theorem own_pn_13 : plainFor (⟨"com/example/usher/usher/OutboxRuns$Run", "<init>", "(Ljava/lang/String;Ljava/lang/String;JJJ)V"⟩ : MethodName) = true := plainFor_of_name (show plainName "com/example/usher/usher/OutboxRuns$Run" = true by first | (simp [plainName, overriddenIn]; done) | decide +kernel)
theorem own_ef_rm_rinit (m : MethodId) (a1 : Addr) (a2 : Addr) (a3 : Addr) (q4 : Int64) (q5 : Int64) (q6 : Int64) : entryFrame m #[(.ref a1), (.ref a2), (.ref a3), (.long q4), (.long q5), (.long q6)] 9 = mkF m 0 #[.val (.ref a1), .val (.ref a2), .val (.ref a3), .val (.long q4), .second, .val (.long q5), .second, .val (.long q6), .second] [] := by first | (simp [entryFrame, mkF, argsToLocals, Value.category]; done) | rfl
set_option maxRecDepth 65536 in
set_option maxHeartbeats 40000000 in
theorem rm_rinit (l : Launch) (Z : State) (a0 : Array Value) (hw : ∀ d ∈ tables_1, d.before a0 Z = true) (a1 a2 a3 : Addr) (q4 q5 q6 : Int64) (h0 : Heap) (n0 : Nat) (O0 : Old Z n0 h0) (ge_a1 : n0 ≤ a1) (E_a1 : Exa Z h0 a1 "com/example/usher/usher/OutboxRuns$Run") (F_a1_aggregateType : Fld Z h0 a1 "com/example/usher/usher/OutboxRuns$Run" "aggregateType" "Ljava/lang/String;" .null) (F_a1_aggregateId : Fld Z h0 a1 "com/example/usher/usher/OutboxRuns$Run" "aggregateId" "Ljava/lang/String;" .null) (F_a1_first : Fld Z h0 a1 "com/example/usher/usher/OutboxRuns$Run" "first" "J" (.long (0 : Int64))) (F_a1_last : Fld Z h0 a1 "com/example/usher/usher/OutboxRuns$Run" "last" "J" (.long (0 : Int64))) (F_a1_rows : Fld Z h0 a1 "com/example/usher/usher/OutboxRuns$Run" "rows" "J" (.long (0 : Int64))) :
    own_Met l Z (⟨"com/example/usher/usher/OutboxRuns$Run", "<init>", "(Ljava/lang/String;Ljava/lang/String;JJJ)V"⟩ : MethodName) prog_16_method_1_code 9 none [] ({ frames := 2, cells := 0, slots := 0, locals := 24 } : Room) #[(.ref a1), (.ref a2), (.ref a3), (.long q4), (.long q5), (.long q6)] h0 (fun v h L => v = none ∧ Fr n0 L ∧ Keep h0 h [a1] ∧ Fld Z h a1 "com/example/usher/usher/OutboxRuns$Run" "aggregateType" "Ljava/lang/String;" (.ref a2) ∧ Fld Z h a1 "com/example/usher/usher/OutboxRuns$Run" "aggregateId" "Ljava/lang/String;" (.ref a3)) := by
  refine own_body own_pn_13 ?_
  intro p e s m below meth c s₁ hx hby hml hown hnm hret hlk X0 hZ e0
  replace hown : s.vm.findClass "com/example/usher/usher/OutboxRuns$Run" = some m.cls := hown
  have N0 := Fr.nil n0
  have K0 := Keep.refl h0 [a1]
  refine own_st (fun _ k => castTop (own_ef_rm_rinit m a1 a2 a3 q4 q5 q6) k) ?_
  show own_go _ _ _ _ _ _ _ (s₁.setTop (mkF m 0 #[.val (.ref a1), .val (.ref a2), .val (.ref a3), .val (.long q4), .second, .val (.long q5), .second, .val (.long q6), .second] []))
  refine own_st (fun _ k => XS.aloadN X0.here hx rfl (hb hby d13_0) rfl rfl k) ?_
  show own_go _ _ _ _ _ _ _ (s₁.setTop (mkF m 1 #[.val (.ref a1), .val (.ref a2), .val (.ref a3), .val (.long q4), .second, .val (.long q5), .second, .val (.long q6), .second] [(.ref a1)]))
  obtain ⟨v116, T116, L116, X116, hQ116, st116⟩ := own_callN X0 hx hZ (argsL := []) (rest := []) (rm_rec l Z a0 hw a1 h0 n0 O0) rfl hown (hw _ (List.mem_of_getElem? (i := 79) rfl)) (hw _ (List.mem_of_getElem? (i := 37) rfl)) (hw _ (List.mem_of_getElem? (i := 39) rfl)) (hw _ (List.mem_of_getElem? (i := 40) rfl)) (by decide) e0 (g := (mkF m 1 #[.val (.ref a1), .val (.ref a2), .val (.ref a3), .val (.long q4), .second, .val (.long q5), .second, .val (.long q6), .second] [(.ref a1)])) rfl (by rw [hml]; rfl) (lenOf own_pd__28_29V rfl) rfl (W := 0) (by show 2 * 0 + _ ≤ _; exact Nat.le_of_eq rfl) (hb hby d13_1) (by decide) (by decide) (by decide) (by decide)
  obtain ⟨rfl, Nq116, eq116⟩ := hQ116
  have N116 := Fr.app N0 Nq116
  refine own_st st116 ?_
  show own_go _ _ _ _ _ _ _ (T116.setTop (mkF m 4 #[.val (.ref a1), .val (.ref a2), .val (.ref a3), .val (.long q4), .second, .val (.long q5), .second, .val (.long q6), .second] []))
  refine own_st (fun _ k => XS.aloadN X116.here hx rfl (hb hby d13_4) rfl rfl k) ?_
  show own_go _ _ _ _ _ _ _ (T116.setTop (mkF m 5 #[.val (.ref a1), .val (.ref a2), .val (.ref a3), .val (.long q4), .second, .val (.long q5), .second, .val (.long q6), .second] [(.ref a1)]))
  refine own_st (fun _ k => XS.aloadN X116.here hx rfl (hb hby d13_5) rfl rfl k) ?_
  show own_go _ _ _ _ _ _ _ (T116.setTop (mkF m 6 #[.val (.ref a1), .val (.ref a2), .val (.ref a3), .val (.long q4), .second, .val (.long q5), .second, .val (.long q6), .second] [(.ref a2), (.ref a1)]))
  obtain ⟨T117, h117, X117, e117, W117, st117⟩ := putF X116 hx hZ hown (host := "") (Or.inl (hw _ (List.mem_of_getElem? (i := 80) rfl))) Via.refl eq116 F_a1_aggregateType E_a1 (Or.inr ⟨(hw _ (List.mem_of_getElem? (i := 81) rfl)), rfl, hnm⟩) (hw _ (List.mem_of_getElem? (i := 57) rfl)) (ty := (.object "java/lang/String")) (by decide) rfl rfl (g := (mkF m 6 #[.val (.ref a1), .val (.ref a2), .val (.ref a3), .val (.long q4), .second, .val (.long q5), .second, .val (.long q6), .second] [(.ref a2), (.ref a1)])) rfl rfl (hb hby d13_6)
  have N117 := Fr.snoc X117 N116 ge_a1
  have O118 := O0.wr W117 ge_a1
  have K118 := K0.wr W117 (Or.inl (List.mem_of_getElem? (i := 0) rfl))
  have F117 := F_a1_aggregateType.same W117
  refine own_st st117 ?_
  show own_go _ _ _ _ _ _ _ (T117.setTop (mkF m 9 #[.val (.ref a1), .val (.ref a2), .val (.ref a3), .val (.long q4), .second, .val (.long q5), .second, .val (.long q6), .second] []))
  refine own_st (fun _ k => XS.aloadN X117.here hx rfl (hb hby d13_9) rfl rfl k) ?_
  show own_go _ _ _ _ _ _ _ (T117.setTop (mkF m 10 #[.val (.ref a1), .val (.ref a2), .val (.ref a3), .val (.long q4), .second, .val (.long q5), .second, .val (.long q6), .second] [(.ref a1)]))
  refine own_st (fun _ k => XS.aloadN X117.here hx rfl (hb hby d13_10) rfl rfl k) ?_
  show own_go _ _ _ _ _ _ _ (T117.setTop (mkF m 11 #[.val (.ref a1), .val (.ref a2), .val (.ref a3), .val (.long q4), .second, .val (.long q5), .second, .val (.long q6), .second] [(.ref a3), (.ref a1)]))
  have f120 := (F_a1_aggregateId.other W117 (Or.inr (slot_ne (Or.inr (hw _ (List.mem_of_getElem? (i := 83) rfl))) (Or.inr (hw _ (List.mem_of_getElem? (i := 81) rfl))) (by decide) (t := (.object "java/lang/String")) (t' := (.object "java/lang/String")) (by decide) (by decide))))
  have f121 := (E_a1.wr W117)
  obtain ⟨T119, h119, X119, e119, W119, st119⟩ := putF X117 hx hZ hown (host := "") (Or.inl (hw _ (List.mem_of_getElem? (i := 82) rfl))) Via.refl e117 f120 f121 (Or.inr ⟨(hw _ (List.mem_of_getElem? (i := 83) rfl)), rfl, hnm⟩) (hw _ (List.mem_of_getElem? (i := 57) rfl)) (ty := (.object "java/lang/String")) (by decide) rfl rfl (g := (mkF m 11 #[.val (.ref a1), .val (.ref a2), .val (.ref a3), .val (.long q4), .second, .val (.long q5), .second, .val (.long q6), .second] [(.ref a3), (.ref a1)])) rfl rfl (hb hby d13_11)
  have N119 := Fr.snoc X119 N117 ge_a1
  have O122 := O118.wr W119 ge_a1
  have K122 := K118.wr W119 (Or.inl (List.mem_of_getElem? (i := 0) rfl))
  have F119 := f120.same W119
  refine own_st st119 ?_
  show own_go _ _ _ _ _ _ _ (T119.setTop (mkF m 14 #[.val (.ref a1), .val (.ref a2), .val (.ref a3), .val (.long q4), .second, .val (.long q5), .second, .val (.long q6), .second] []))
  refine own_st (fun _ k => XS.aloadN X119.here hx rfl (hb hby d13_14) rfl rfl k) ?_
  show own_go _ _ _ _ _ _ _ (T119.setTop (mkF m 15 #[.val (.ref a1), .val (.ref a2), .val (.ref a3), .val (.long q4), .second, .val (.long q5), .second, .val (.long q6), .second] [(.ref a1)]))
  refine own_st (fun _ k => XS.lloadN X119.here hx rfl (hb hby d13_15) rfl k) ?_
  show own_go _ _ _ _ _ _ _ (T119.setTop (mkF m 16 #[.val (.ref a1), .val (.ref a2), .val (.ref a3), .val (.long q4), .second, .val (.long q5), .second, .val (.long q6), .second] [(.long q4), (.ref a1)]))
  have f124 := ((F_a1_first.other W117 (Or.inr (slot_ne (Or.inr (hw _ (List.mem_of_getElem? (i := 85) rfl))) (Or.inr (hw _ (List.mem_of_getElem? (i := 81) rfl))) (by decide) (t := .long) (t' := (.object "java/lang/String")) (by decide) (by decide)))).other W119 (Or.inr (slot_ne (Or.inr (hw _ (List.mem_of_getElem? (i := 85) rfl))) (Or.inr (hw _ (List.mem_of_getElem? (i := 83) rfl))) (by decide) (t := .long) (t' := (.object "java/lang/String")) (by decide) (by decide))))
  have f125 := (f121.wr W119)
  obtain ⟨T123, h123, X123, e123, W123, st123⟩ := putF X119 hx hZ hown (host := "") (Or.inl (hw _ (List.mem_of_getElem? (i := 84) rfl))) Via.refl e119 f124 f125 (Or.inr ⟨(hw _ (List.mem_of_getElem? (i := 85) rfl)), rfl, hnm⟩) (hw _ (List.mem_of_getElem? (i := 57) rfl)) (ty := .long) (by decide) rfl rfl (g := (mkF m 16 #[.val (.ref a1), .val (.ref a2), .val (.ref a3), .val (.long q4), .second, .val (.long q5), .second, .val (.long q6), .second] [(.long q4), (.ref a1)])) rfl rfl (hb hby d13_16)
  have N123 := Fr.snoc X123 N119 ge_a1
  have O126 := O122.wr W123 ge_a1
  have K126 := K122.wr W123 (Or.inl (List.mem_of_getElem? (i := 0) rfl))
  have F123 := f124.same W123
  refine own_st st123 ?_
  show own_go _ _ _ _ _ _ _ (T123.setTop (mkF m 19 #[.val (.ref a1), .val (.ref a2), .val (.ref a3), .val (.long q4), .second, .val (.long q5), .second, .val (.long q6), .second] []))
  refine own_st (fun _ k => XS.aloadN X123.here hx rfl (hb hby d13_19) rfl rfl k) ?_
  show own_go _ _ _ _ _ _ _ (T123.setTop (mkF m 20 #[.val (.ref a1), .val (.ref a2), .val (.ref a3), .val (.long q4), .second, .val (.long q5), .second, .val (.long q6), .second] [(.ref a1)]))
  refine own_st (fun _ k => XS.lload X123.here hx rfl (hb hby d13_20) rfl k) ?_
  show own_go _ _ _ _ _ _ _ (T123.setTop (mkF m 22 #[.val (.ref a1), .val (.ref a2), .val (.ref a3), .val (.long q4), .second, .val (.long q5), .second, .val (.long q6), .second] [(.long q5), (.ref a1)]))
  have f128 := (((F_a1_last.other W117 (Or.inr (slot_ne (Or.inr (hw _ (List.mem_of_getElem? (i := 87) rfl))) (Or.inr (hw _ (List.mem_of_getElem? (i := 81) rfl))) (by decide) (t := .long) (t' := (.object "java/lang/String")) (by decide) (by decide)))).other W119 (Or.inr (slot_ne (Or.inr (hw _ (List.mem_of_getElem? (i := 87) rfl))) (Or.inr (hw _ (List.mem_of_getElem? (i := 83) rfl))) (by decide) (t := .long) (t' := (.object "java/lang/String")) (by decide) (by decide)))).other W123 (Or.inr (slot_ne (Or.inr (hw _ (List.mem_of_getElem? (i := 87) rfl))) (Or.inr (hw _ (List.mem_of_getElem? (i := 85) rfl))) (by decide) (t := .long) (t' := .long) (by decide) (by decide))))
  have f129 := (f125.wr W123)
  obtain ⟨T127, h127, X127, e127, W127, st127⟩ := putF X123 hx hZ hown (host := "") (Or.inl (hw _ (List.mem_of_getElem? (i := 86) rfl))) Via.refl e123 f128 f129 (Or.inr ⟨(hw _ (List.mem_of_getElem? (i := 87) rfl)), rfl, hnm⟩) (hw _ (List.mem_of_getElem? (i := 57) rfl)) (ty := .long) (by decide) rfl rfl (g := (mkF m 22 #[.val (.ref a1), .val (.ref a2), .val (.ref a3), .val (.long q4), .second, .val (.long q5), .second, .val (.long q6), .second] [(.long q5), (.ref a1)])) rfl rfl (hb hby d13_22)
  have N127 := Fr.snoc X127 N123 ge_a1
  have O130 := O126.wr W127 ge_a1
  have K130 := K126.wr W127 (Or.inl (List.mem_of_getElem? (i := 0) rfl))
  have F127 := f128.same W127
  refine own_st st127 ?_
  show own_go _ _ _ _ _ _ _ (T127.setTop (mkF m 25 #[.val (.ref a1), .val (.ref a2), .val (.ref a3), .val (.long q4), .second, .val (.long q5), .second, .val (.long q6), .second] []))
  refine own_st (fun _ k => XS.aloadN X127.here hx rfl (hb hby d13_25) rfl rfl k) ?_
  show own_go _ _ _ _ _ _ _ (T127.setTop (mkF m 26 #[.val (.ref a1), .val (.ref a2), .val (.ref a3), .val (.long q4), .second, .val (.long q5), .second, .val (.long q6), .second] [(.ref a1)]))
  refine own_st (fun _ k => XS.lload X127.here hx rfl (hb hby d13_26) rfl k) ?_
  show own_go _ _ _ _ _ _ _ (T127.setTop (mkF m 28 #[.val (.ref a1), .val (.ref a2), .val (.ref a3), .val (.long q4), .second, .val (.long q5), .second, .val (.long q6), .second] [(.long q6), (.ref a1)]))
  have f132 := ((((F_a1_rows.other W117 (Or.inr (slot_ne (Or.inr (hw _ (List.mem_of_getElem? (i := 89) rfl))) (Or.inr (hw _ (List.mem_of_getElem? (i := 81) rfl))) (by decide) (t := .long) (t' := (.object "java/lang/String")) (by decide) (by decide)))).other W119 (Or.inr (slot_ne (Or.inr (hw _ (List.mem_of_getElem? (i := 89) rfl))) (Or.inr (hw _ (List.mem_of_getElem? (i := 83) rfl))) (by decide) (t := .long) (t' := (.object "java/lang/String")) (by decide) (by decide)))).other W123 (Or.inr (slot_ne (Or.inr (hw _ (List.mem_of_getElem? (i := 89) rfl))) (Or.inr (hw _ (List.mem_of_getElem? (i := 85) rfl))) (by decide) (t := .long) (t' := .long) (by decide) (by decide)))).other W127 (Or.inr (slot_ne (Or.inr (hw _ (List.mem_of_getElem? (i := 89) rfl))) (Or.inr (hw _ (List.mem_of_getElem? (i := 87) rfl))) (by decide) (t := .long) (t' := .long) (by decide) (by decide))))
  have f133 := (f129.wr W127)
  obtain ⟨T131, h131, X131, e131, W131, st131⟩ := putF X127 hx hZ hown (host := "") (Or.inl (hw _ (List.mem_of_getElem? (i := 88) rfl))) Via.refl e127 f132 f133 (Or.inr ⟨(hw _ (List.mem_of_getElem? (i := 89) rfl)), rfl, hnm⟩) (hw _ (List.mem_of_getElem? (i := 57) rfl)) (ty := .long) (by decide) rfl rfl (g := (mkF m 28 #[.val (.ref a1), .val (.ref a2), .val (.ref a3), .val (.long q4), .second, .val (.long q5), .second, .val (.long q6), .second] [(.long q6), (.ref a1)])) rfl rfl (hb hby d13_28)
  have N131 := Fr.snoc X131 N127 ge_a1
  have O134 := O130.wr W131 ge_a1
  have K134 := K130.wr W131 (Or.inl (List.mem_of_getElem? (i := 0) rfl))
  have F131 := f132.same W131
  refine own_st st131 ?_
  show own_go _ _ _ _ _ _ _ (T131.setTop (mkF m 31 #[.val (.ref a1), .val (.ref a2), .val (.ref a3), .val (.long q4), .second, .val (.long q5), .second, .val (.long q6), .second] []))
  have f135 := ((((F117.other W119 (Or.inr (slot_ne (Or.inr (hw _ (List.mem_of_getElem? (i := 81) rfl))) (Or.inr (hw _ (List.mem_of_getElem? (i := 83) rfl))) (by decide) (t := (.object "java/lang/String")) (t' := (.object "java/lang/String")) (by decide) (by decide)))).other W123 (Or.inr (slot_ne (Or.inr (hw _ (List.mem_of_getElem? (i := 81) rfl))) (Or.inr (hw _ (List.mem_of_getElem? (i := 85) rfl))) (by decide) (t := (.object "java/lang/String")) (t' := .long) (by decide) (by decide)))).other W127 (Or.inr (slot_ne (Or.inr (hw _ (List.mem_of_getElem? (i := 81) rfl))) (Or.inr (hw _ (List.mem_of_getElem? (i := 87) rfl))) (by decide) (t := (.object "java/lang/String")) (t' := .long) (by decide) (by decide)))).other W131 (Or.inr (slot_ne (Or.inr (hw _ (List.mem_of_getElem? (i := 81) rfl))) (Or.inr (hw _ (List.mem_of_getElem? (i := 89) rfl))) (by decide) (t := (.object "java/lang/String")) (t' := .long) (by decide) (by decide))))
  have f136 := (((F119.other W123 (Or.inr (slot_ne (Or.inr (hw _ (List.mem_of_getElem? (i := 83) rfl))) (Or.inr (hw _ (List.mem_of_getElem? (i := 85) rfl))) (by decide) (t := (.object "java/lang/String")) (t' := .long) (by decide) (by decide)))).other W127 (Or.inr (slot_ne (Or.inr (hw _ (List.mem_of_getElem? (i := 83) rfl))) (Or.inr (hw _ (List.mem_of_getElem? (i := 87) rfl))) (by decide) (t := (.object "java/lang/String")) (t' := .long) (by decide) (by decide)))).other W131 (Or.inr (slot_ne (Or.inr (hw _ (List.mem_of_getElem? (i := 83) rfl))) (Or.inr (hw _ (List.mem_of_getElem? (i := 89) rfl))) (by decide) (t := (.object "java/lang/String")) (t' := .long) (by decide) (by decide))))
  exact own_ret0 X131 hx hlk hret (hb hby d13_31) (by decide) (by decide) (by rw [e131]; exact ⟨rfl, N131, K134, f135, f136⟩)
theorem d16_0 : decode prog_16_method_5_code 0 = .ok (.aload_n 0, 1) := by decide +kernel
theorem d16_1 : decode prog_16_method_5_code 1 = .ok (.getfield 7, 3) := by decide +kernel
theorem d16_4 : decode prog_16_method_5_code 4 = .ok (.areturn, 1) := by decide +kernel
theorem own_pn_16 : plainFor (⟨"com/example/usher/usher/OutboxRuns$Run", "aggregateType", "()Ljava/lang/String;"⟩ : MethodName) = true := plainFor_of_name (show plainName "com/example/usher/usher/OutboxRuns$Run" = true by first | (simp [plainName, overriddenIn]; done) | decide +kernel)
theorem own_ef_rm_raggregateType (m : MethodId) (a1 : Addr) : entryFrame m #[(.ref a1)] 1 = mkF m 0 #[.val (.ref a1)] [] := by first | (simp [entryFrame, mkF, argsToLocals, Value.category]; done) | rfl
set_option maxRecDepth 65536 in
set_option maxHeartbeats 40000000 in
theorem rm_raggregateType (l : Launch) (Z : State) (a0 : Array Value) (hw : ∀ d ∈ tables_1, d.before a0 Z = true) (a1 a2 : Addr) (h0 : Heap) (n0 : Nat) (O0 : Old Z n0 h0) (F1 : Fld Z h0 a1 "com/example/usher/usher/OutboxRuns$Run" "aggregateType" "Ljava/lang/String;" (.ref a2)) :
    own_Met l Z (⟨"com/example/usher/usher/OutboxRuns$Run", "aggregateType", "()Ljava/lang/String;"⟩ : MethodName) prog_16_method_5_code 1 (some (.object "java/lang/String")) [] ({ frames := 0, cells := 0, slots := 0, locals := 0 } : Room) #[(.ref a1)] h0 (fun v h L => v = some (.ref a2) ∧ Fr n0 L ∧ h = h0) := by
  refine own_body own_pn_16 ?_
  intro p e s m below meth c s₁ hx hby hml hown hnm hret hlk X0 hZ e0
  replace hown : s.vm.findClass "com/example/usher/usher/OutboxRuns$Run" = some m.cls := hown
  have N0 := Fr.nil n0
  have K0 := Keep.refl h0 []
  refine own_st (fun _ k => castTop (own_ef_rm_raggregateType m a1) k) ?_
  show own_go _ _ _ _ _ _ _ (s₁.setTop (mkF m 0 #[.val (.ref a1)] []))
  refine own_st (fun _ k => XS.aloadN X0.here hx rfl (hb hby d16_0) rfl rfl k) ?_
  show own_go _ _ _ _ _ _ _ (s₁.setTop (mkF m 1 #[.val (.ref a1)] [(.ref a1)]))
  obtain ⟨T137, X137, e137, st137⟩ := getF X0 hx hZ hown (host := "") (Or.inl (hw _ (List.mem_of_getElem? (i := 80) rfl))) Via.refl e0 F1 (g := (mkF m 1 #[.val (.ref a1)] [(.ref a1)])) rfl rfl (hb hby d16_1)
  refine own_st st137 ?_
  show own_go _ _ _ _ _ _ _ (T137.setTop (mkF m 4 #[.val (.ref a1)] [(.ref a2)]))
  exact own_retA X137 hx hlk hret rfl rfl (hb hby d16_4) (by decide) (by decide) (⟨rfl, N0, e137⟩)
theorem d19_0 : decode prog_16_method_6_code 0 = .ok (.aload_n 0, 1) := by decide +kernel
theorem d19_1 : decode prog_16_method_6_code 1 = .ok (.getfield 13, 3) := by decide +kernel
theorem d19_4 : decode prog_16_method_6_code 4 = .ok (.areturn, 1) := by decide +kernel
theorem own_pn_19 : plainFor (⟨"com/example/usher/usher/OutboxRuns$Run", "aggregateId", "()Ljava/lang/String;"⟩ : MethodName) = true := plainFor_of_name (show plainName "com/example/usher/usher/OutboxRuns$Run" = true by first | (simp [plainName, overriddenIn]; done) | decide +kernel)
theorem own_ef_rm_raggregateId (m : MethodId) (a1 : Addr) : entryFrame m #[(.ref a1)] 1 = mkF m 0 #[.val (.ref a1)] [] := by first | (simp [entryFrame, mkF, argsToLocals, Value.category]; done) | rfl
set_option maxRecDepth 65536 in
set_option maxHeartbeats 40000000 in
theorem rm_raggregateId (l : Launch) (Z : State) (a0 : Array Value) (hw : ∀ d ∈ tables_1, d.before a0 Z = true) (a1 a2 : Addr) (h0 : Heap) (n0 : Nat) (O0 : Old Z n0 h0) (F1 : Fld Z h0 a1 "com/example/usher/usher/OutboxRuns$Run" "aggregateId" "Ljava/lang/String;" (.ref a2)) :
    own_Met l Z (⟨"com/example/usher/usher/OutboxRuns$Run", "aggregateId", "()Ljava/lang/String;"⟩ : MethodName) prog_16_method_6_code 1 (some (.object "java/lang/String")) [] ({ frames := 0, cells := 0, slots := 0, locals := 0 } : Room) #[(.ref a1)] h0 (fun v h L => v = some (.ref a2) ∧ Fr n0 L ∧ h = h0) := by
  refine own_body own_pn_19 ?_
  intro p e s m below meth c s₁ hx hby hml hown hnm hret hlk X0 hZ e0
  replace hown : s.vm.findClass "com/example/usher/usher/OutboxRuns$Run" = some m.cls := hown
  have N0 := Fr.nil n0
  have K0 := Keep.refl h0 []
  refine own_st (fun _ k => castTop (own_ef_rm_raggregateId m a1) k) ?_
  show own_go _ _ _ _ _ _ _ (s₁.setTop (mkF m 0 #[.val (.ref a1)] []))
  refine own_st (fun _ k => XS.aloadN X0.here hx rfl (hb hby d19_0) rfl rfl k) ?_
  show own_go _ _ _ _ _ _ _ (s₁.setTop (mkF m 1 #[.val (.ref a1)] [(.ref a1)]))
  obtain ⟨T138, X138, e138, st138⟩ := getF X0 hx hZ hown (host := "") (Or.inl (hw _ (List.mem_of_getElem? (i := 82) rfl))) Via.refl e0 F1 (g := (mkF m 1 #[.val (.ref a1)] [(.ref a1)])) rfl rfl (hb hby d19_1)
  refine own_st st138 ?_
  show own_go _ _ _ _ _ _ _ (T138.setTop (mkF m 4 #[.val (.ref a1)] [(.ref a2)]))
  exact own_retA X138 hx hlk hret rfl rfl (hb hby d19_4) (by decide) (by decide) (⟨rfl, N0, e138⟩)
theorem d14_0 : decode prog_14_method_2_code 0 = .ok (.aload_n 0, 1) := by decide +kernel
theorem d14_1 : decode prog_14_method_2_code 1 = .ok (.getfield 26, 3) := by decide +kernel
theorem d14_4 : decode prog_14_method_2_code 4 = .ok (.ifCond .eq 35, 3) := by decide +kernel
theorem d14_39 : decode prog_14_method_2_code 39 = .ok (.iconst 0, 1) := by decide +kernel
theorem d14_40 : decode prog_14_method_2_code 40 = .ok (.ireturn, 1) := by decide +kernel
theorem own_pn_14 : plainFor (⟨"com/example/usher/usher/OutboxRuns$Found", "goesOn", "(Lcom/example/usher/usher/OutboxRuns$Run;)Z"⟩ : MethodName) = true := plainFor_of_name (show plainName "com/example/usher/usher/OutboxRuns$Found" = true by first | (simp [plainName, overriddenIn]; done) | decide +kernel)
theorem own_ef_rm_go0 (m : MethodId) (a1 : Addr) (a2 : Addr) : entryFrame m #[(.ref a1), (.ref a2)] 2 = mkF m 0 #[.val (.ref a1), .val (.ref a2)] [] := by first | (simp [entryFrame, mkF, argsToLocals, Value.category]; done) | rfl
set_option maxRecDepth 65536 in
set_option maxHeartbeats 40000000 in
theorem rm_go0 (l : Launch) (Z : State) (a0 : Array Value) (hw : ∀ d ∈ tables_1, d.before a0 Z = true) (a1 a2 x1 x2 y1 y2 : Addr) (t_x1 : Addr) (k_x1 : ClassId) (cs_x1 : List Int32) (t_x2 : Addr) (k_x2 : ClassId) (cs_x2 : List Int32) (t_y1 : Addr) (k_y1 : ClassId) (cs_y1 : List Int32) (t_y2 : Addr) (k_y2 : ClassId) (cs_y2 : List Int32) (z_COMPACT_STRINGS : Int32) (h0 : Heap) (n0 : Nat) (O0 : Old Z n0 h0) (hS : own_S Z z_COMPACT_STRINGS) (F_a1_aggregateType : Fld Z h0 a1 "com/example/usher/usher/OutboxRuns$Found" "aggregateType" "Ljava/lang/String;" (.ref x1)) (F_a1_aggregateId : Fld Z h0 a1 "com/example/usher/usher/OutboxRuns$Found" "aggregateId" "Ljava/lang/String;" (.ref x2)) (F_a1_firstRead : Fld Z h0 a1 "com/example/usher/usher/OutboxRuns$Found" "firstRead" "Z" (.int (0 : Int32))) (E_a2 : Exa Z h0 a2 "com/example/usher/usher/OutboxRuns$Run") (F_a2_aggregateType : Fld Z h0 a2 "com/example/usher/usher/OutboxRuns$Run" "aggregateType" "Ljava/lang/String;" (.ref y1)) (F_a2_aggregateId : Fld Z h0 a2 "com/example/usher/usher/OutboxRuns$Run" "aggregateId" "Ljava/lang/String;" (.ref y2)) (E_x1 : Exa Z h0 x1 "java/lang/String") (Fc_x1 : Fld Z h0 x1 "java/lang/String" "coder" "B" (.int (0 : Int32))) (Fv_x1 : Fld Z h0 x1 "java/lang/String" "value" "[B" (.ref t_x1)) (Vt_x1 : Arv Z h0 t_x1 k_x1 .byte (Int32.ofNat cs_x1.length) ((cs_x1.map StrChars.lo8).map Value.int) (.int (0 : Int32))) (hb_x1 : ∀ c ∈ cs_x1, ¬ c < 0 ∧ ¬ (255 : Int32) < c) (hl_x1 : cs_x1.length ≤ 4000) (E_x2 : Exa Z h0 x2 "java/lang/String") (Fc_x2 : Fld Z h0 x2 "java/lang/String" "coder" "B" (.int (0 : Int32))) (Fv_x2 : Fld Z h0 x2 "java/lang/String" "value" "[B" (.ref t_x2)) (Vt_x2 : Arv Z h0 t_x2 k_x2 .byte (Int32.ofNat cs_x2.length) ((cs_x2.map StrChars.lo8).map Value.int) (.int (0 : Int32))) (hb_x2 : ∀ c ∈ cs_x2, ¬ c < 0 ∧ ¬ (255 : Int32) < c) (hl_x2 : cs_x2.length ≤ 4000) (E_y1 : Exa Z h0 y1 "java/lang/String") (Fc_y1 : Fld Z h0 y1 "java/lang/String" "coder" "B" (.int (0 : Int32))) (Fv_y1 : Fld Z h0 y1 "java/lang/String" "value" "[B" (.ref t_y1)) (Vt_y1 : Arv Z h0 t_y1 k_y1 .byte (Int32.ofNat cs_y1.length) ((cs_y1.map StrChars.lo8).map Value.int) (.int (0 : Int32))) (hb_y1 : ∀ c ∈ cs_y1, ¬ c < 0 ∧ ¬ (255 : Int32) < c) (hl_y1 : cs_y1.length ≤ 4000) (E_y2 : Exa Z h0 y2 "java/lang/String") (Fc_y2 : Fld Z h0 y2 "java/lang/String" "coder" "B" (.int (0 : Int32))) (Fv_y2 : Fld Z h0 y2 "java/lang/String" "value" "[B" (.ref t_y2)) (Vt_y2 : Arv Z h0 t_y2 k_y2 .byte (Int32.ofNat cs_y2.length) ((cs_y2.map StrChars.lo8).map Value.int) (.int (0 : Int32))) (hb_y2 : ∀ c ∈ cs_y2, ¬ c < 0 ∧ ¬ (255 : Int32) < c) (hl_y2 : cs_y2.length ≤ 4000)  :
    own_Met l Z (⟨"com/example/usher/usher/OutboxRuns$Found", "goesOn", "(Lcom/example/usher/usher/OutboxRuns$Run;)Z"⟩ : MethodName) prog_14_method_2_code 2 (some .boolean) [] ({ frames := 3, cells := 0, slots := 0, locals := 60 } : Room) #[(.ref a1), (.ref a2)] h0 (fun v h L => v = some (.int (0 : Int32)) ∧ Fr n0 L ∧ h = h0) := by
  refine own_body own_pn_14 ?_
  intro p e s m below meth c s₁ hx hby hml hown hnm hret hlk X0 hZ e0
  replace hown : s.vm.findClass "com/example/usher/usher/OutboxRuns$Found" = some m.cls := hown
  have N0 := Fr.nil n0
  have K0 := Keep.refl h0 []
  refine own_st (fun _ k => castTop (own_ef_rm_go0 m a1 a2) k) ?_
  show own_go _ _ _ _ _ _ _ (s₁.setTop (mkF m 0 #[.val (.ref a1), .val (.ref a2)] []))
  refine own_st (fun _ k => XS.aloadN X0.here hx rfl (hb hby d14_0) rfl rfl k) ?_
  show own_go _ _ _ _ _ _ _ (s₁.setTop (mkF m 1 #[.val (.ref a1), .val (.ref a2)] [(.ref a1)]))
  obtain ⟨T139, X139, e139, st139⟩ := getF X0 hx hZ hown (host := "") (Or.inl (hw _ (List.mem_of_getElem? (i := 52) rfl))) Via.refl e0 F_a1_firstRead (g := (mkF m 1 #[.val (.ref a1), .val (.ref a2)] [(.ref a1)])) rfl rfl (hb hby d14_1)
  refine own_st st139 ?_
  show own_go _ _ _ _ _ _ _ (T139.setTop (mkF m 4 #[.val (.ref a1), .val (.ref a2)] [(.int (0 : Int32))]))
  refine own_st (fun _ k => XS.ifYes X139.here hx rfl (pc0 := 4) (pc' := 39) rfl (hb hby d14_4) rfl (by decide) (by decide) (by decide) k) ?_
  show own_go _ _ _ _ _ _ _ (T139.setTop (mkF m 39 #[.val (.ref a1), .val (.ref a2)] []))
  refine own_st (fun _ k => XS.iconst X139.here hx rfl (hb hby d14_39) k) ?_
  show own_go _ _ _ _ _ _ _ (T139.setTop (mkF m 40 #[.val (.ref a1), .val (.ref a2)] [(.int (0 : Int32))]))
  exact own_retN X139 hx hlk (t := .boolean) hret (by simp) rfl (hb hby d14_40) (by decide) (by decide) (⟨rfl, N0, e139⟩)
theorem d14_7 : decode prog_14_method_2_code 7 = .ok (.aload_n 0, 1) := by decide +kernel
theorem d14_8 : decode prog_14_method_2_code 8 = .ok (.getfield 7, 3) := by decide +kernel
theorem d14_11 : decode prog_14_method_2_code 11 = .ok (.aload_n 1, 1) := by decide +kernel
theorem d14_12 : decode prog_14_method_2_code 12 = .ok (.invokevirtual 33, 3) := by decide +kernel
theorem d14_15 : decode prog_14_method_2_code 15 = .ok (.invokevirtual 38, 3) := by decide +kernel
theorem d14_18 : decode prog_14_method_2_code 18 = .ok (.ifCond .eq 21, 3) := by decide +kernel
theorem own_pd__28_29Ljava_2flang_2fString_3b : parseMethodDescriptor "()Ljava/lang/String;" = some ⟨[], some (.object "java/lang/String")⟩ := by decide +kernel
theorem own_pd__28Ljava_2flang_2fObject_3b_29Z : parseMethodDescriptor "(Ljava/lang/Object;)Z" = some ⟨[(.object "java/lang/Object")], some .boolean⟩ := by decide +kernel
theorem own_ef_rm_go1 (m : MethodId) (a1 : Addr) (a2 : Addr) : entryFrame m #[(.ref a1), (.ref a2)] 2 = mkF m 0 #[.val (.ref a1), .val (.ref a2)] [] := by first | (simp [entryFrame, mkF, argsToLocals, Value.category]; done) | rfl
set_option maxRecDepth 65536 in
set_option maxHeartbeats 40000000 in
theorem rm_go1 (l : Launch) (Z : State) (a0 : Array Value) (hw : ∀ d ∈ tables_1, d.before a0 Z = true) (a1 a2 x1 x2 y1 y2 : Addr) (t_x1 : Addr) (k_x1 : ClassId) (cs_x1 : List Int32) (t_x2 : Addr) (k_x2 : ClassId) (cs_x2 : List Int32) (t_y1 : Addr) (k_y1 : ClassId) (cs_y1 : List Int32) (t_y2 : Addr) (k_y2 : ClassId) (cs_y2 : List Int32) (z_COMPACT_STRINGS : Int32) (h0 : Heap) (n0 : Nat) (O0 : Old Z n0 h0) (hS : own_S Z z_COMPACT_STRINGS) (F_a1_aggregateType : Fld Z h0 a1 "com/example/usher/usher/OutboxRuns$Found" "aggregateType" "Ljava/lang/String;" (.ref x1)) (F_a1_aggregateId : Fld Z h0 a1 "com/example/usher/usher/OutboxRuns$Found" "aggregateId" "Ljava/lang/String;" (.ref x2)) (F_a1_firstRead : Fld Z h0 a1 "com/example/usher/usher/OutboxRuns$Found" "firstRead" "Z" (.int (1 : Int32))) (E_a2 : Exa Z h0 a2 "com/example/usher/usher/OutboxRuns$Run") (F_a2_aggregateType : Fld Z h0 a2 "com/example/usher/usher/OutboxRuns$Run" "aggregateType" "Ljava/lang/String;" (.ref y1)) (F_a2_aggregateId : Fld Z h0 a2 "com/example/usher/usher/OutboxRuns$Run" "aggregateId" "Ljava/lang/String;" (.ref y2)) (E_x1 : Exa Z h0 x1 "java/lang/String") (Fc_x1 : Fld Z h0 x1 "java/lang/String" "coder" "B" (.int (0 : Int32))) (Fv_x1 : Fld Z h0 x1 "java/lang/String" "value" "[B" (.ref t_x1)) (Vt_x1 : Arv Z h0 t_x1 k_x1 .byte (Int32.ofNat cs_x1.length) ((cs_x1.map StrChars.lo8).map Value.int) (.int (0 : Int32))) (hb_x1 : ∀ c ∈ cs_x1, ¬ c < 0 ∧ ¬ (255 : Int32) < c) (hl_x1 : cs_x1.length ≤ 4000) (E_x2 : Exa Z h0 x2 "java/lang/String") (Fc_x2 : Fld Z h0 x2 "java/lang/String" "coder" "B" (.int (0 : Int32))) (Fv_x2 : Fld Z h0 x2 "java/lang/String" "value" "[B" (.ref t_x2)) (Vt_x2 : Arv Z h0 t_x2 k_x2 .byte (Int32.ofNat cs_x2.length) ((cs_x2.map StrChars.lo8).map Value.int) (.int (0 : Int32))) (hb_x2 : ∀ c ∈ cs_x2, ¬ c < 0 ∧ ¬ (255 : Int32) < c) (hl_x2 : cs_x2.length ≤ 4000) (E_y1 : Exa Z h0 y1 "java/lang/String") (Fc_y1 : Fld Z h0 y1 "java/lang/String" "coder" "B" (.int (0 : Int32))) (Fv_y1 : Fld Z h0 y1 "java/lang/String" "value" "[B" (.ref t_y1)) (Vt_y1 : Arv Z h0 t_y1 k_y1 .byte (Int32.ofNat cs_y1.length) ((cs_y1.map StrChars.lo8).map Value.int) (.int (0 : Int32))) (hb_y1 : ∀ c ∈ cs_y1, ¬ c < 0 ∧ ¬ (255 : Int32) < c) (hl_y1 : cs_y1.length ≤ 4000) (E_y2 : Exa Z h0 y2 "java/lang/String") (Fc_y2 : Fld Z h0 y2 "java/lang/String" "coder" "B" (.int (0 : Int32))) (Fv_y2 : Fld Z h0 y2 "java/lang/String" "value" "[B" (.ref t_y2)) (Vt_y2 : Arv Z h0 t_y2 k_y2 .byte (Int32.ofNat cs_y2.length) ((cs_y2.map StrChars.lo8).map Value.int) (.int (0 : Int32))) (hb_y2 : ∀ c ∈ cs_y2, ¬ c < 0 ∧ ¬ (255 : Int32) < c) (hl_y2 : cs_y2.length ≤ 4000) (h1 : ¬ cs_x1 = cs_y1) :
    own_Met l Z (⟨"com/example/usher/usher/OutboxRuns$Found", "goesOn", "(Lcom/example/usher/usher/OutboxRuns$Run;)Z"⟩ : MethodName) prog_14_method_2_code 2 (some .boolean) [] ({ frames := 3, cells := 0, slots := 0, locals := 60 } : Room) #[(.ref a1), (.ref a2)] h0 (fun v h L => v = some (.int (0 : Int32)) ∧ Fr n0 L ∧ h = h0) := by
  refine own_body own_pn_14 ?_
  intro p e s m below meth c s₁ hx hby hml hown hnm hret hlk X0 hZ e0
  replace hown : s.vm.findClass "com/example/usher/usher/OutboxRuns$Found" = some m.cls := hown
  have N0 := Fr.nil n0
  have K0 := Keep.refl h0 []
  refine own_st (fun _ k => castTop (own_ef_rm_go1 m a1 a2) k) ?_
  show own_go _ _ _ _ _ _ _ (s₁.setTop (mkF m 0 #[.val (.ref a1), .val (.ref a2)] []))
  refine own_st (fun _ k => XS.aloadN X0.here hx rfl (hb hby d14_0) rfl rfl k) ?_
  show own_go _ _ _ _ _ _ _ (s₁.setTop (mkF m 1 #[.val (.ref a1), .val (.ref a2)] [(.ref a1)]))
  obtain ⟨T140, X140, e140, st140⟩ := getF X0 hx hZ hown (host := "") (Or.inl (hw _ (List.mem_of_getElem? (i := 52) rfl))) Via.refl e0 F_a1_firstRead (g := (mkF m 1 #[.val (.ref a1), .val (.ref a2)] [(.ref a1)])) rfl rfl (hb hby d14_1)
  refine own_st st140 ?_
  show own_go _ _ _ _ _ _ _ (T140.setTop (mkF m 4 #[.val (.ref a1), .val (.ref a2)] [(.int (1 : Int32))]))
  refine own_st (fun _ k => XS.ifNo X140.here hx rfl (hb hby d14_4) rfl (by decide) k) ?_
  show own_go _ _ _ _ _ _ _ (T140.setTop (mkF m 7 #[.val (.ref a1), .val (.ref a2)] []))
  refine own_st (fun _ k => XS.aloadN X140.here hx rfl (hb hby d14_7) rfl rfl k) ?_
  show own_go _ _ _ _ _ _ _ (T140.setTop (mkF m 8 #[.val (.ref a1), .val (.ref a2)] [(.ref a1)]))
  obtain ⟨T141, X141, e141, st141⟩ := getF X140 hx hZ hown (host := "") (Or.inl (hw _ (List.mem_of_getElem? (i := 42) rfl))) Via.refl e140 F_a1_aggregateType (g := (mkF m 8 #[.val (.ref a1), .val (.ref a2)] [(.ref a1)])) rfl rfl (hb hby d14_8)
  refine own_st st141 ?_
  show own_go _ _ _ _ _ _ _ (T141.setTop (mkF m 11 #[.val (.ref a1), .val (.ref a2)] [(.ref x1)]))
  refine own_st (fun _ k => XS.aloadN X141.here hx rfl (hb hby d14_11) rfl rfl k) ?_
  show own_go _ _ _ _ _ _ _ (T141.setTop (mkF m 12 #[.val (.ref a1), .val (.ref a2)] [(.ref a2), (.ref x1)]))
  obtain ⟨v142, T142, L142, X142, hQ142, st142⟩ := own_callV X141 hx hZ (argsL := []) (rest := [(.ref x1)]) (rm_raggregateType l Z a0 hw a2 y1 h0 n0 O0 F_a2_aggregateType) hown (hw _ (List.mem_of_getElem? (i := 98) rfl)) (hw _ (List.mem_of_getElem? (i := 99) rfl)) (notFace_of_selects (args := #[]) (mvT hZ (hw _ (List.mem_of_getElem? (i := 101) rfl)))) (hw _ (List.mem_of_getElem? (i := 101) rfl)) (hw _ (List.mem_of_getElem? (i := 100) rfl)) (hw _ (List.mem_of_getElem? (i := 58) rfl)) (hw _ (List.mem_of_getElem? (i := 102) rfl)) (by decide) e141 E_a2 (g := (mkF m 12 #[.val (.ref a1), .val (.ref a2)] [(.ref a2), (.ref x1)])) rfl (by rw [hml]; rfl) (lenOf own_pd__28_29Ljava_2flang_2fString_3b rfl) rfl (W := 1) (by show 2 * 0 + _ ≤ _; exact Nat.le_of_eq rfl) (hb hby d14_12) (by decide) (by decide) (by decide) (by decide)
  obtain ⟨rfl, Nq142, eq142⟩ := hQ142
  have N142 := Fr.app N0 Nq142
  refine own_st st142 ?_
  show own_go _ _ _ _ _ _ _ (T142.setTop (mkF m 15 #[.val (.ref a1), .val (.ref a2)] [(.ref y1), (.ref x1)]))
  have heq143 : ∀ d ∈ StrChars.Road.wordsEq, d.before a0 Z = true := fun d hd => hw d ((by decide +kernel : ∀ d ∈ StrChars.Road.wordsEq, d ∈ tables_1) d hd)
  obtain ⟨cq143, kq143, q143a, q143b, q143c⟩ := isOf hZ eq142 E_x1
  obtain ⟨v143, _, ⟨T143, L143, k143, n143⟩, -, X143, ⟨Lc143, ⟨hv143, hL143, eq143⟩, l143, y143, z143⟩, st143⟩ := X142.virtualBack hx (y := (⟨"java/lang/String", "equals", "(Ljava/lang/Object;)Z"⟩ : MethodName)) (z := (⟨"java/lang/String", "equals", "(Ljava/lang/Object;)Z"⟩ : MethodName)) hown (mvT hZ (hw _ (List.mem_of_getElem? (i := 103) rfl))) (mvT hZ (hw _ (List.mem_of_getElem? (i := 104) rfl))) (notFace_of_selects (args := #[]) (mvT hZ (hw _ (List.mem_of_getElem? (i := 106) rfl)))) (mvT hZ (hw _ (List.mem_of_getElem? (i := 106) rfl))) (mvT hZ (hw _ (List.mem_of_getElem? (i := 105) rfl))) (by decide) (StrChars.Road.eqW (W := 0) hZ heq143 (kI := 4) (hw _ (List.mem_of_getElem? (i := 11) rfl)) E_x1 Fv_x1 Fc_x1 Vt_x1 (StrChars.Road.codOf rfl fun c hc => (hb_x1 c hc).2) (fun c hc => own_up (hb_x1 c hc)) hl_x1 E_y1 Fv_y1 Fc_y1 Vt_y1 (StrChars.Road.codOf rfl fun c hc => (hb_y1 c hc).2) (fun c hc => own_up (hb_y1 c hc)) hl_y1 (hS.1.ext O0.2) hS.2 (by decide) (by decide)) q143a q143c (g := (mkF m 15 #[.val (.ref a1), .val (.ref a2)] [(.ref y1), (.ref x1)])) rfl (by rw [hml]; rfl) (Steps.refl _) (argsL := [(.ref y1)]) (rest := []) (lenOf own_pd__28Ljava_2flang_2fObject_3b_29Z rfl) rfl (by show 2 * 0 + _ ≤ _; exact Nat.le_of_eq rfl) (hb hby d14_15) (fun _ _ => ⟨rfl, eq142, (by decide : 0 + 0 ≤ _), (by decide : 0 + 0 ≤ _)⟩)
  dsimp only [Pt.U, Pt.locs, Pt.cells, Pt.slots] at X143 l143 y143 z143 st143 eq143
  subst hL143 l143 y143 z143
  obtain rfl : v143 = some (.int (0 : Int32)) := by rcases hv143 with ⟨q, r⟩ | ⟨q, r⟩ <;> first | exact q | exact absurd h1 r | exact absurd r h1
  have N143 := Fr.app N142 (Fr.nil n0)
  refine own_st (fun _ k => st143.trans k) ?_
  show own_go _ _ _ _ _ _ _ (T143.setTop (mkF m 18 #[.val (.ref a1), .val (.ref a2)] [(.int (0 : Int32))]))
  refine own_st (fun _ k => XS.ifYes X143.here hx rfl (pc0 := 18) (pc' := 39) rfl (hb hby d14_18) rfl (by decide) (by decide) (by decide) k) ?_
  show own_go _ _ _ _ _ _ _ (T143.setTop (mkF m 39 #[.val (.ref a1), .val (.ref a2)] []))
  refine own_st (fun _ k => XS.iconst X143.here hx rfl (hb hby d14_39) k) ?_
  show own_go _ _ _ _ _ _ _ (T143.setTop (mkF m 40 #[.val (.ref a1), .val (.ref a2)] [(.int (0 : Int32))]))
  exact own_retN X143 hx hlk (t := .boolean) hret (by simp) rfl (hb hby d14_40) (by decide) (by decide) (⟨rfl, N143, eq143⟩)
theorem d14_21 : decode prog_14_method_2_code 21 = .ok (.aload_n 0, 1) := by decide +kernel
theorem d14_22 : decode prog_14_method_2_code 22 = .ok (.getfield 13, 3) := by decide +kernel
theorem d14_25 : decode prog_14_method_2_code 25 = .ok (.aload_n 1, 1) := by decide +kernel
theorem d14_26 : decode prog_14_method_2_code 26 = .ok (.invokevirtual 44, 3) := by decide +kernel
theorem d14_29 : decode prog_14_method_2_code 29 = .ok (.invokevirtual 38, 3) := by decide +kernel
theorem d14_32 : decode prog_14_method_2_code 32 = .ok (.ifCond .eq 7, 3) := by decide +kernel
theorem own_ef_rm_go2 (m : MethodId) (a1 : Addr) (a2 : Addr) : entryFrame m #[(.ref a1), (.ref a2)] 2 = mkF m 0 #[.val (.ref a1), .val (.ref a2)] [] := by first | (simp [entryFrame, mkF, argsToLocals, Value.category]; done) | rfl
set_option maxRecDepth 65536 in
set_option maxHeartbeats 40000000 in
theorem rm_go2 (l : Launch) (Z : State) (a0 : Array Value) (hw : ∀ d ∈ tables_1, d.before a0 Z = true) (a1 a2 x1 x2 y1 y2 : Addr) (t_x1 : Addr) (k_x1 : ClassId) (cs_x1 : List Int32) (t_x2 : Addr) (k_x2 : ClassId) (cs_x2 : List Int32) (t_y1 : Addr) (k_y1 : ClassId) (cs_y1 : List Int32) (t_y2 : Addr) (k_y2 : ClassId) (cs_y2 : List Int32) (z_COMPACT_STRINGS : Int32) (h0 : Heap) (n0 : Nat) (O0 : Old Z n0 h0) (hS : own_S Z z_COMPACT_STRINGS) (F_a1_aggregateType : Fld Z h0 a1 "com/example/usher/usher/OutboxRuns$Found" "aggregateType" "Ljava/lang/String;" (.ref x1)) (F_a1_aggregateId : Fld Z h0 a1 "com/example/usher/usher/OutboxRuns$Found" "aggregateId" "Ljava/lang/String;" (.ref x2)) (F_a1_firstRead : Fld Z h0 a1 "com/example/usher/usher/OutboxRuns$Found" "firstRead" "Z" (.int (1 : Int32))) (E_a2 : Exa Z h0 a2 "com/example/usher/usher/OutboxRuns$Run") (F_a2_aggregateType : Fld Z h0 a2 "com/example/usher/usher/OutboxRuns$Run" "aggregateType" "Ljava/lang/String;" (.ref y1)) (F_a2_aggregateId : Fld Z h0 a2 "com/example/usher/usher/OutboxRuns$Run" "aggregateId" "Ljava/lang/String;" (.ref y2)) (E_x1 : Exa Z h0 x1 "java/lang/String") (Fc_x1 : Fld Z h0 x1 "java/lang/String" "coder" "B" (.int (0 : Int32))) (Fv_x1 : Fld Z h0 x1 "java/lang/String" "value" "[B" (.ref t_x1)) (Vt_x1 : Arv Z h0 t_x1 k_x1 .byte (Int32.ofNat cs_x1.length) ((cs_x1.map StrChars.lo8).map Value.int) (.int (0 : Int32))) (hb_x1 : ∀ c ∈ cs_x1, ¬ c < 0 ∧ ¬ (255 : Int32) < c) (hl_x1 : cs_x1.length ≤ 4000) (E_x2 : Exa Z h0 x2 "java/lang/String") (Fc_x2 : Fld Z h0 x2 "java/lang/String" "coder" "B" (.int (0 : Int32))) (Fv_x2 : Fld Z h0 x2 "java/lang/String" "value" "[B" (.ref t_x2)) (Vt_x2 : Arv Z h0 t_x2 k_x2 .byte (Int32.ofNat cs_x2.length) ((cs_x2.map StrChars.lo8).map Value.int) (.int (0 : Int32))) (hb_x2 : ∀ c ∈ cs_x2, ¬ c < 0 ∧ ¬ (255 : Int32) < c) (hl_x2 : cs_x2.length ≤ 4000) (E_y1 : Exa Z h0 y1 "java/lang/String") (Fc_y1 : Fld Z h0 y1 "java/lang/String" "coder" "B" (.int (0 : Int32))) (Fv_y1 : Fld Z h0 y1 "java/lang/String" "value" "[B" (.ref t_y1)) (Vt_y1 : Arv Z h0 t_y1 k_y1 .byte (Int32.ofNat cs_y1.length) ((cs_y1.map StrChars.lo8).map Value.int) (.int (0 : Int32))) (hb_y1 : ∀ c ∈ cs_y1, ¬ c < 0 ∧ ¬ (255 : Int32) < c) (hl_y1 : cs_y1.length ≤ 4000) (E_y2 : Exa Z h0 y2 "java/lang/String") (Fc_y2 : Fld Z h0 y2 "java/lang/String" "coder" "B" (.int (0 : Int32))) (Fv_y2 : Fld Z h0 y2 "java/lang/String" "value" "[B" (.ref t_y2)) (Vt_y2 : Arv Z h0 t_y2 k_y2 .byte (Int32.ofNat cs_y2.length) ((cs_y2.map StrChars.lo8).map Value.int) (.int (0 : Int32))) (hb_y2 : ∀ c ∈ cs_y2, ¬ c < 0 ∧ ¬ (255 : Int32) < c) (hl_y2 : cs_y2.length ≤ 4000) (h1 : cs_x1 = cs_y1) (h2 : ¬ cs_x2 = cs_y2) :
    own_Met l Z (⟨"com/example/usher/usher/OutboxRuns$Found", "goesOn", "(Lcom/example/usher/usher/OutboxRuns$Run;)Z"⟩ : MethodName) prog_14_method_2_code 2 (some .boolean) [] ({ frames := 3, cells := 0, slots := 0, locals := 60 } : Room) #[(.ref a1), (.ref a2)] h0 (fun v h L => v = some (.int (0 : Int32)) ∧ Fr n0 L ∧ h = h0) := by
  refine own_body own_pn_14 ?_
  intro p e s m below meth c s₁ hx hby hml hown hnm hret hlk X0 hZ e0
  replace hown : s.vm.findClass "com/example/usher/usher/OutboxRuns$Found" = some m.cls := hown
  have N0 := Fr.nil n0
  have K0 := Keep.refl h0 []
  refine own_st (fun _ k => castTop (own_ef_rm_go2 m a1 a2) k) ?_
  show own_go _ _ _ _ _ _ _ (s₁.setTop (mkF m 0 #[.val (.ref a1), .val (.ref a2)] []))
  refine own_st (fun _ k => XS.aloadN X0.here hx rfl (hb hby d14_0) rfl rfl k) ?_
  show own_go _ _ _ _ _ _ _ (s₁.setTop (mkF m 1 #[.val (.ref a1), .val (.ref a2)] [(.ref a1)]))
  obtain ⟨T144, X144, e144, st144⟩ := getF X0 hx hZ hown (host := "") (Or.inl (hw _ (List.mem_of_getElem? (i := 52) rfl))) Via.refl e0 F_a1_firstRead (g := (mkF m 1 #[.val (.ref a1), .val (.ref a2)] [(.ref a1)])) rfl rfl (hb hby d14_1)
  refine own_st st144 ?_
  show own_go _ _ _ _ _ _ _ (T144.setTop (mkF m 4 #[.val (.ref a1), .val (.ref a2)] [(.int (1 : Int32))]))
  refine own_st (fun _ k => XS.ifNo X144.here hx rfl (hb hby d14_4) rfl (by decide) k) ?_
  show own_go _ _ _ _ _ _ _ (T144.setTop (mkF m 7 #[.val (.ref a1), .val (.ref a2)] []))
  refine own_st (fun _ k => XS.aloadN X144.here hx rfl (hb hby d14_7) rfl rfl k) ?_
  show own_go _ _ _ _ _ _ _ (T144.setTop (mkF m 8 #[.val (.ref a1), .val (.ref a2)] [(.ref a1)]))
  obtain ⟨T145, X145, e145, st145⟩ := getF X144 hx hZ hown (host := "") (Or.inl (hw _ (List.mem_of_getElem? (i := 42) rfl))) Via.refl e144 F_a1_aggregateType (g := (mkF m 8 #[.val (.ref a1), .val (.ref a2)] [(.ref a1)])) rfl rfl (hb hby d14_8)
  refine own_st st145 ?_
  show own_go _ _ _ _ _ _ _ (T145.setTop (mkF m 11 #[.val (.ref a1), .val (.ref a2)] [(.ref x1)]))
  refine own_st (fun _ k => XS.aloadN X145.here hx rfl (hb hby d14_11) rfl rfl k) ?_
  show own_go _ _ _ _ _ _ _ (T145.setTop (mkF m 12 #[.val (.ref a1), .val (.ref a2)] [(.ref a2), (.ref x1)]))
  obtain ⟨v146, T146, L146, X146, hQ146, st146⟩ := own_callV X145 hx hZ (argsL := []) (rest := [(.ref x1)]) (rm_raggregateType l Z a0 hw a2 y1 h0 n0 O0 F_a2_aggregateType) hown (hw _ (List.mem_of_getElem? (i := 98) rfl)) (hw _ (List.mem_of_getElem? (i := 99) rfl)) (notFace_of_selects (args := #[]) (mvT hZ (hw _ (List.mem_of_getElem? (i := 101) rfl)))) (hw _ (List.mem_of_getElem? (i := 101) rfl)) (hw _ (List.mem_of_getElem? (i := 100) rfl)) (hw _ (List.mem_of_getElem? (i := 58) rfl)) (hw _ (List.mem_of_getElem? (i := 102) rfl)) (by decide) e145 E_a2 (g := (mkF m 12 #[.val (.ref a1), .val (.ref a2)] [(.ref a2), (.ref x1)])) rfl (by rw [hml]; rfl) (lenOf own_pd__28_29Ljava_2flang_2fString_3b rfl) rfl (W := 1) (by show 2 * 0 + _ ≤ _; exact Nat.le_of_eq rfl) (hb hby d14_12) (by decide) (by decide) (by decide) (by decide)
  obtain ⟨rfl, Nq146, eq146⟩ := hQ146
  have N146 := Fr.app N0 Nq146
  refine own_st st146 ?_
  show own_go _ _ _ _ _ _ _ (T146.setTop (mkF m 15 #[.val (.ref a1), .val (.ref a2)] [(.ref y1), (.ref x1)]))
  have heq147 : ∀ d ∈ StrChars.Road.wordsEq, d.before a0 Z = true := fun d hd => hw d ((by decide +kernel : ∀ d ∈ StrChars.Road.wordsEq, d ∈ tables_1) d hd)
  obtain ⟨cq147, kq147, q147a, q147b, q147c⟩ := isOf hZ eq146 E_x1
  obtain ⟨v147, _, ⟨T147, L147, k147, n147⟩, -, X147, ⟨Lc147, ⟨hv147, hL147, eq147⟩, l147, y147, z147⟩, st147⟩ := X146.virtualBack hx (y := (⟨"java/lang/String", "equals", "(Ljava/lang/Object;)Z"⟩ : MethodName)) (z := (⟨"java/lang/String", "equals", "(Ljava/lang/Object;)Z"⟩ : MethodName)) hown (mvT hZ (hw _ (List.mem_of_getElem? (i := 103) rfl))) (mvT hZ (hw _ (List.mem_of_getElem? (i := 104) rfl))) (notFace_of_selects (args := #[]) (mvT hZ (hw _ (List.mem_of_getElem? (i := 106) rfl)))) (mvT hZ (hw _ (List.mem_of_getElem? (i := 106) rfl))) (mvT hZ (hw _ (List.mem_of_getElem? (i := 105) rfl))) (by decide) (StrChars.Road.eqW (W := 0) hZ heq147 (kI := 4) (hw _ (List.mem_of_getElem? (i := 11) rfl)) E_x1 Fv_x1 Fc_x1 Vt_x1 (StrChars.Road.codOf rfl fun c hc => (hb_x1 c hc).2) (fun c hc => own_up (hb_x1 c hc)) hl_x1 E_y1 Fv_y1 Fc_y1 Vt_y1 (StrChars.Road.codOf rfl fun c hc => (hb_y1 c hc).2) (fun c hc => own_up (hb_y1 c hc)) hl_y1 (hS.1.ext O0.2) hS.2 (by decide) (by decide)) q147a q147c (g := (mkF m 15 #[.val (.ref a1), .val (.ref a2)] [(.ref y1), (.ref x1)])) rfl (by rw [hml]; rfl) (Steps.refl _) (argsL := [(.ref y1)]) (rest := []) (lenOf own_pd__28Ljava_2flang_2fObject_3b_29Z rfl) rfl (by show 2 * 0 + _ ≤ _; exact Nat.le_of_eq rfl) (hb hby d14_15) (fun _ _ => ⟨rfl, eq146, (by decide : 0 + 0 ≤ _), (by decide : 0 + 0 ≤ _)⟩)
  dsimp only [Pt.U, Pt.locs, Pt.cells, Pt.slots] at X147 l147 y147 z147 st147 eq147
  subst hL147 l147 y147 z147
  obtain rfl : v147 = some (.int (1 : Int32)) := by rcases hv147 with ⟨q, r⟩ | ⟨q, r⟩ <;> first | exact q | exact absurd h1 r | exact absurd r h1
  have N147 := Fr.app N146 (Fr.nil n0)
  refine own_st (fun _ k => st147.trans k) ?_
  show own_go _ _ _ _ _ _ _ (T147.setTop (mkF m 18 #[.val (.ref a1), .val (.ref a2)] [(.int (1 : Int32))]))
  refine own_st (fun _ k => XS.ifNo X147.here hx rfl (hb hby d14_18) rfl (by decide) k) ?_
  show own_go _ _ _ _ _ _ _ (T147.setTop (mkF m 21 #[.val (.ref a1), .val (.ref a2)] []))
  refine own_st (fun _ k => XS.aloadN X147.here hx rfl (hb hby d14_21) rfl rfl k) ?_
  show own_go _ _ _ _ _ _ _ (T147.setTop (mkF m 22 #[.val (.ref a1), .val (.ref a2)] [(.ref a1)]))
  obtain ⟨T148, X148, e148, st148⟩ := getF X147 hx hZ hown (host := "") (Or.inl (hw _ (List.mem_of_getElem? (i := 44) rfl))) Via.refl eq147 F_a1_aggregateId (g := (mkF m 22 #[.val (.ref a1), .val (.ref a2)] [(.ref a1)])) rfl rfl (hb hby d14_22)
  refine own_st st148 ?_
  show own_go _ _ _ _ _ _ _ (T148.setTop (mkF m 25 #[.val (.ref a1), .val (.ref a2)] [(.ref x2)]))
  refine own_st (fun _ k => XS.aloadN X148.here hx rfl (hb hby d14_25) rfl rfl k) ?_
  show own_go _ _ _ _ _ _ _ (T148.setTop (mkF m 26 #[.val (.ref a1), .val (.ref a2)] [(.ref a2), (.ref x2)]))
  obtain ⟨v149, T149, L149, X149, hQ149, st149⟩ := own_callV X148 hx hZ (argsL := []) (rest := [(.ref x2)]) (rm_raggregateId l Z a0 hw a2 y2 h0 n0 O0 F_a2_aggregateId) hown (hw _ (List.mem_of_getElem? (i := 113) rfl)) (hw _ (List.mem_of_getElem? (i := 114) rfl)) (notFace_of_selects (args := #[]) (mvT hZ (hw _ (List.mem_of_getElem? (i := 116) rfl)))) (hw _ (List.mem_of_getElem? (i := 116) rfl)) (hw _ (List.mem_of_getElem? (i := 115) rfl)) (hw _ (List.mem_of_getElem? (i := 58) rfl)) (hw _ (List.mem_of_getElem? (i := 117) rfl)) (by decide) e148 E_a2 (g := (mkF m 26 #[.val (.ref a1), .val (.ref a2)] [(.ref a2), (.ref x2)])) rfl (by rw [hml]; rfl) (lenOf own_pd__28_29Ljava_2flang_2fString_3b rfl) rfl (W := 1) (by show 2 * 0 + _ ≤ _; exact Nat.le_of_eq rfl) (hb hby d14_26) (by decide) (by decide) (by decide) (by decide)
  obtain ⟨rfl, Nq149, eq149⟩ := hQ149
  have N149 := Fr.app N147 Nq149
  refine own_st st149 ?_
  show own_go _ _ _ _ _ _ _ (T149.setTop (mkF m 29 #[.val (.ref a1), .val (.ref a2)] [(.ref y2), (.ref x2)]))
  have heq150 : ∀ d ∈ StrChars.Road.wordsEq, d.before a0 Z = true := fun d hd => hw d ((by decide +kernel : ∀ d ∈ StrChars.Road.wordsEq, d ∈ tables_1) d hd)
  obtain ⟨cq150, kq150, q150a, q150b, q150c⟩ := isOf hZ eq149 E_x2
  obtain ⟨v150, _, ⟨T150, L150, k150, n150⟩, -, X150, ⟨Lc150, ⟨hv150, hL150, eq150⟩, l150, y150, z150⟩, st150⟩ := X149.virtualBack hx (y := (⟨"java/lang/String", "equals", "(Ljava/lang/Object;)Z"⟩ : MethodName)) (z := (⟨"java/lang/String", "equals", "(Ljava/lang/Object;)Z"⟩ : MethodName)) hown (mvT hZ (hw _ (List.mem_of_getElem? (i := 103) rfl))) (mvT hZ (hw _ (List.mem_of_getElem? (i := 104) rfl))) (notFace_of_selects (args := #[]) (mvT hZ (hw _ (List.mem_of_getElem? (i := 106) rfl)))) (mvT hZ (hw _ (List.mem_of_getElem? (i := 106) rfl))) (mvT hZ (hw _ (List.mem_of_getElem? (i := 105) rfl))) (by decide) (StrChars.Road.eqW (W := 0) hZ heq150 (kI := 4) (hw _ (List.mem_of_getElem? (i := 11) rfl)) E_x2 Fv_x2 Fc_x2 Vt_x2 (StrChars.Road.codOf rfl fun c hc => (hb_x2 c hc).2) (fun c hc => own_up (hb_x2 c hc)) hl_x2 E_y2 Fv_y2 Fc_y2 Vt_y2 (StrChars.Road.codOf rfl fun c hc => (hb_y2 c hc).2) (fun c hc => own_up (hb_y2 c hc)) hl_y2 (hS.1.ext O0.2) hS.2 (by decide) (by decide)) q150a q150c (g := (mkF m 29 #[.val (.ref a1), .val (.ref a2)] [(.ref y2), (.ref x2)])) rfl (by rw [hml]; rfl) (Steps.refl _) (argsL := [(.ref y2)]) (rest := []) (lenOf own_pd__28Ljava_2flang_2fObject_3b_29Z rfl) rfl (by show 2 * 0 + _ ≤ _; exact Nat.le_of_eq rfl) (hb hby d14_29) (fun _ _ => ⟨rfl, eq149, (by decide : 0 + 0 ≤ _), (by decide : 0 + 0 ≤ _)⟩)
  dsimp only [Pt.U, Pt.locs, Pt.cells, Pt.slots] at X150 l150 y150 z150 st150 eq150
  subst hL150 l150 y150 z150
  obtain rfl : v150 = some (.int (0 : Int32)) := by rcases hv150 with ⟨q, r⟩ | ⟨q, r⟩ <;> first | exact q | exact absurd h2 r | exact absurd r h2
  have N150 := Fr.app N149 (Fr.nil n0)
  refine own_st (fun _ k => st150.trans k) ?_
  show own_go _ _ _ _ _ _ _ (T150.setTop (mkF m 32 #[.val (.ref a1), .val (.ref a2)] [(.int (0 : Int32))]))
  refine own_st (fun _ k => XS.ifYes X150.here hx rfl (pc0 := 32) (pc' := 39) rfl (hb hby d14_32) rfl (by decide) (by decide) (by decide) k) ?_
  show own_go _ _ _ _ _ _ _ (T150.setTop (mkF m 39 #[.val (.ref a1), .val (.ref a2)] []))
  refine own_st (fun _ k => XS.iconst X150.here hx rfl (hb hby d14_39) k) ?_
  show own_go _ _ _ _ _ _ _ (T150.setTop (mkF m 40 #[.val (.ref a1), .val (.ref a2)] [(.int (0 : Int32))]))
  exact own_retN X150 hx hlk (t := .boolean) hret (by simp) rfl (hb hby d14_40) (by decide) (by decide) (⟨rfl, N150, eq150⟩)
theorem d14_35 : decode prog_14_method_2_code 35 = .ok (.iconst 1, 1) := by decide +kernel
theorem d14_36 : decode prog_14_method_2_code 36 = .ok (.goto 4, 3) := by decide +kernel
theorem own_ef_rm_go3 (m : MethodId) (a1 : Addr) (a2 : Addr) : entryFrame m #[(.ref a1), (.ref a2)] 2 = mkF m 0 #[.val (.ref a1), .val (.ref a2)] [] := by first | (simp [entryFrame, mkF, argsToLocals, Value.category]; done) | rfl
set_option maxRecDepth 65536 in
set_option maxHeartbeats 40000000 in
theorem rm_go3 (l : Launch) (Z : State) (a0 : Array Value) (hw : ∀ d ∈ tables_1, d.before a0 Z = true) (a1 a2 x1 x2 y1 y2 : Addr) (t_x1 : Addr) (k_x1 : ClassId) (cs_x1 : List Int32) (t_x2 : Addr) (k_x2 : ClassId) (cs_x2 : List Int32) (t_y1 : Addr) (k_y1 : ClassId) (cs_y1 : List Int32) (t_y2 : Addr) (k_y2 : ClassId) (cs_y2 : List Int32) (z_COMPACT_STRINGS : Int32) (h0 : Heap) (n0 : Nat) (O0 : Old Z n0 h0) (hS : own_S Z z_COMPACT_STRINGS) (F_a1_aggregateType : Fld Z h0 a1 "com/example/usher/usher/OutboxRuns$Found" "aggregateType" "Ljava/lang/String;" (.ref x1)) (F_a1_aggregateId : Fld Z h0 a1 "com/example/usher/usher/OutboxRuns$Found" "aggregateId" "Ljava/lang/String;" (.ref x2)) (F_a1_firstRead : Fld Z h0 a1 "com/example/usher/usher/OutboxRuns$Found" "firstRead" "Z" (.int (1 : Int32))) (E_a2 : Exa Z h0 a2 "com/example/usher/usher/OutboxRuns$Run") (F_a2_aggregateType : Fld Z h0 a2 "com/example/usher/usher/OutboxRuns$Run" "aggregateType" "Ljava/lang/String;" (.ref y1)) (F_a2_aggregateId : Fld Z h0 a2 "com/example/usher/usher/OutboxRuns$Run" "aggregateId" "Ljava/lang/String;" (.ref y2)) (E_x1 : Exa Z h0 x1 "java/lang/String") (Fc_x1 : Fld Z h0 x1 "java/lang/String" "coder" "B" (.int (0 : Int32))) (Fv_x1 : Fld Z h0 x1 "java/lang/String" "value" "[B" (.ref t_x1)) (Vt_x1 : Arv Z h0 t_x1 k_x1 .byte (Int32.ofNat cs_x1.length) ((cs_x1.map StrChars.lo8).map Value.int) (.int (0 : Int32))) (hb_x1 : ∀ c ∈ cs_x1, ¬ c < 0 ∧ ¬ (255 : Int32) < c) (hl_x1 : cs_x1.length ≤ 4000) (E_x2 : Exa Z h0 x2 "java/lang/String") (Fc_x2 : Fld Z h0 x2 "java/lang/String" "coder" "B" (.int (0 : Int32))) (Fv_x2 : Fld Z h0 x2 "java/lang/String" "value" "[B" (.ref t_x2)) (Vt_x2 : Arv Z h0 t_x2 k_x2 .byte (Int32.ofNat cs_x2.length) ((cs_x2.map StrChars.lo8).map Value.int) (.int (0 : Int32))) (hb_x2 : ∀ c ∈ cs_x2, ¬ c < 0 ∧ ¬ (255 : Int32) < c) (hl_x2 : cs_x2.length ≤ 4000) (E_y1 : Exa Z h0 y1 "java/lang/String") (Fc_y1 : Fld Z h0 y1 "java/lang/String" "coder" "B" (.int (0 : Int32))) (Fv_y1 : Fld Z h0 y1 "java/lang/String" "value" "[B" (.ref t_y1)) (Vt_y1 : Arv Z h0 t_y1 k_y1 .byte (Int32.ofNat cs_y1.length) ((cs_y1.map StrChars.lo8).map Value.int) (.int (0 : Int32))) (hb_y1 : ∀ c ∈ cs_y1, ¬ c < 0 ∧ ¬ (255 : Int32) < c) (hl_y1 : cs_y1.length ≤ 4000) (E_y2 : Exa Z h0 y2 "java/lang/String") (Fc_y2 : Fld Z h0 y2 "java/lang/String" "coder" "B" (.int (0 : Int32))) (Fv_y2 : Fld Z h0 y2 "java/lang/String" "value" "[B" (.ref t_y2)) (Vt_y2 : Arv Z h0 t_y2 k_y2 .byte (Int32.ofNat cs_y2.length) ((cs_y2.map StrChars.lo8).map Value.int) (.int (0 : Int32))) (hb_y2 : ∀ c ∈ cs_y2, ¬ c < 0 ∧ ¬ (255 : Int32) < c) (hl_y2 : cs_y2.length ≤ 4000) (h1 : cs_x1 = cs_y1) (h2 : cs_x2 = cs_y2) :
    own_Met l Z (⟨"com/example/usher/usher/OutboxRuns$Found", "goesOn", "(Lcom/example/usher/usher/OutboxRuns$Run;)Z"⟩ : MethodName) prog_14_method_2_code 2 (some .boolean) [] ({ frames := 3, cells := 0, slots := 0, locals := 60 } : Room) #[(.ref a1), (.ref a2)] h0 (fun v h L => v = some (.int (1 : Int32)) ∧ Fr n0 L ∧ h = h0) := by
  refine own_body own_pn_14 ?_
  intro p e s m below meth c s₁ hx hby hml hown hnm hret hlk X0 hZ e0
  replace hown : s.vm.findClass "com/example/usher/usher/OutboxRuns$Found" = some m.cls := hown
  have N0 := Fr.nil n0
  have K0 := Keep.refl h0 []
  refine own_st (fun _ k => castTop (own_ef_rm_go3 m a1 a2) k) ?_
  show own_go _ _ _ _ _ _ _ (s₁.setTop (mkF m 0 #[.val (.ref a1), .val (.ref a2)] []))
  refine own_st (fun _ k => XS.aloadN X0.here hx rfl (hb hby d14_0) rfl rfl k) ?_
  show own_go _ _ _ _ _ _ _ (s₁.setTop (mkF m 1 #[.val (.ref a1), .val (.ref a2)] [(.ref a1)]))
  obtain ⟨T151, X151, e151, st151⟩ := getF X0 hx hZ hown (host := "") (Or.inl (hw _ (List.mem_of_getElem? (i := 52) rfl))) Via.refl e0 F_a1_firstRead (g := (mkF m 1 #[.val (.ref a1), .val (.ref a2)] [(.ref a1)])) rfl rfl (hb hby d14_1)
  refine own_st st151 ?_
  show own_go _ _ _ _ _ _ _ (T151.setTop (mkF m 4 #[.val (.ref a1), .val (.ref a2)] [(.int (1 : Int32))]))
  refine own_st (fun _ k => XS.ifNo X151.here hx rfl (hb hby d14_4) rfl (by decide) k) ?_
  show own_go _ _ _ _ _ _ _ (T151.setTop (mkF m 7 #[.val (.ref a1), .val (.ref a2)] []))
  refine own_st (fun _ k => XS.aloadN X151.here hx rfl (hb hby d14_7) rfl rfl k) ?_
  show own_go _ _ _ _ _ _ _ (T151.setTop (mkF m 8 #[.val (.ref a1), .val (.ref a2)] [(.ref a1)]))
  obtain ⟨T152, X152, e152, st152⟩ := getF X151 hx hZ hown (host := "") (Or.inl (hw _ (List.mem_of_getElem? (i := 42) rfl))) Via.refl e151 F_a1_aggregateType (g := (mkF m 8 #[.val (.ref a1), .val (.ref a2)] [(.ref a1)])) rfl rfl (hb hby d14_8)
  refine own_st st152 ?_
  show own_go _ _ _ _ _ _ _ (T152.setTop (mkF m 11 #[.val (.ref a1), .val (.ref a2)] [(.ref x1)]))
  refine own_st (fun _ k => XS.aloadN X152.here hx rfl (hb hby d14_11) rfl rfl k) ?_
  show own_go _ _ _ _ _ _ _ (T152.setTop (mkF m 12 #[.val (.ref a1), .val (.ref a2)] [(.ref a2), (.ref x1)]))
  obtain ⟨v153, T153, L153, X153, hQ153, st153⟩ := own_callV X152 hx hZ (argsL := []) (rest := [(.ref x1)]) (rm_raggregateType l Z a0 hw a2 y1 h0 n0 O0 F_a2_aggregateType) hown (hw _ (List.mem_of_getElem? (i := 98) rfl)) (hw _ (List.mem_of_getElem? (i := 99) rfl)) (notFace_of_selects (args := #[]) (mvT hZ (hw _ (List.mem_of_getElem? (i := 101) rfl)))) (hw _ (List.mem_of_getElem? (i := 101) rfl)) (hw _ (List.mem_of_getElem? (i := 100) rfl)) (hw _ (List.mem_of_getElem? (i := 58) rfl)) (hw _ (List.mem_of_getElem? (i := 102) rfl)) (by decide) e152 E_a2 (g := (mkF m 12 #[.val (.ref a1), .val (.ref a2)] [(.ref a2), (.ref x1)])) rfl (by rw [hml]; rfl) (lenOf own_pd__28_29Ljava_2flang_2fString_3b rfl) rfl (W := 1) (by show 2 * 0 + _ ≤ _; exact Nat.le_of_eq rfl) (hb hby d14_12) (by decide) (by decide) (by decide) (by decide)
  obtain ⟨rfl, Nq153, eq153⟩ := hQ153
  have N153 := Fr.app N0 Nq153
  refine own_st st153 ?_
  show own_go _ _ _ _ _ _ _ (T153.setTop (mkF m 15 #[.val (.ref a1), .val (.ref a2)] [(.ref y1), (.ref x1)]))
  have heq154 : ∀ d ∈ StrChars.Road.wordsEq, d.before a0 Z = true := fun d hd => hw d ((by decide +kernel : ∀ d ∈ StrChars.Road.wordsEq, d ∈ tables_1) d hd)
  obtain ⟨cq154, kq154, q154a, q154b, q154c⟩ := isOf hZ eq153 E_x1
  obtain ⟨v154, _, ⟨T154, L154, k154, n154⟩, -, X154, ⟨Lc154, ⟨hv154, hL154, eq154⟩, l154, y154, z154⟩, st154⟩ := X153.virtualBack hx (y := (⟨"java/lang/String", "equals", "(Ljava/lang/Object;)Z"⟩ : MethodName)) (z := (⟨"java/lang/String", "equals", "(Ljava/lang/Object;)Z"⟩ : MethodName)) hown (mvT hZ (hw _ (List.mem_of_getElem? (i := 103) rfl))) (mvT hZ (hw _ (List.mem_of_getElem? (i := 104) rfl))) (notFace_of_selects (args := #[]) (mvT hZ (hw _ (List.mem_of_getElem? (i := 106) rfl)))) (mvT hZ (hw _ (List.mem_of_getElem? (i := 106) rfl))) (mvT hZ (hw _ (List.mem_of_getElem? (i := 105) rfl))) (by decide) (StrChars.Road.eqW (W := 0) hZ heq154 (kI := 4) (hw _ (List.mem_of_getElem? (i := 11) rfl)) E_x1 Fv_x1 Fc_x1 Vt_x1 (StrChars.Road.codOf rfl fun c hc => (hb_x1 c hc).2) (fun c hc => own_up (hb_x1 c hc)) hl_x1 E_y1 Fv_y1 Fc_y1 Vt_y1 (StrChars.Road.codOf rfl fun c hc => (hb_y1 c hc).2) (fun c hc => own_up (hb_y1 c hc)) hl_y1 (hS.1.ext O0.2) hS.2 (by decide) (by decide)) q154a q154c (g := (mkF m 15 #[.val (.ref a1), .val (.ref a2)] [(.ref y1), (.ref x1)])) rfl (by rw [hml]; rfl) (Steps.refl _) (argsL := [(.ref y1)]) (rest := []) (lenOf own_pd__28Ljava_2flang_2fObject_3b_29Z rfl) rfl (by show 2 * 0 + _ ≤ _; exact Nat.le_of_eq rfl) (hb hby d14_15) (fun _ _ => ⟨rfl, eq153, (by decide : 0 + 0 ≤ _), (by decide : 0 + 0 ≤ _)⟩)
  dsimp only [Pt.U, Pt.locs, Pt.cells, Pt.slots] at X154 l154 y154 z154 st154 eq154
  subst hL154 l154 y154 z154
  obtain rfl : v154 = some (.int (1 : Int32)) := by rcases hv154 with ⟨q, r⟩ | ⟨q, r⟩ <;> first | exact q | exact absurd h1 r | exact absurd r h1
  have N154 := Fr.app N153 (Fr.nil n0)
  refine own_st (fun _ k => st154.trans k) ?_
  show own_go _ _ _ _ _ _ _ (T154.setTop (mkF m 18 #[.val (.ref a1), .val (.ref a2)] [(.int (1 : Int32))]))
  refine own_st (fun _ k => XS.ifNo X154.here hx rfl (hb hby d14_18) rfl (by decide) k) ?_
  show own_go _ _ _ _ _ _ _ (T154.setTop (mkF m 21 #[.val (.ref a1), .val (.ref a2)] []))
  refine own_st (fun _ k => XS.aloadN X154.here hx rfl (hb hby d14_21) rfl rfl k) ?_
  show own_go _ _ _ _ _ _ _ (T154.setTop (mkF m 22 #[.val (.ref a1), .val (.ref a2)] [(.ref a1)]))
  obtain ⟨T155, X155, e155, st155⟩ := getF X154 hx hZ hown (host := "") (Or.inl (hw _ (List.mem_of_getElem? (i := 44) rfl))) Via.refl eq154 F_a1_aggregateId (g := (mkF m 22 #[.val (.ref a1), .val (.ref a2)] [(.ref a1)])) rfl rfl (hb hby d14_22)
  refine own_st st155 ?_
  show own_go _ _ _ _ _ _ _ (T155.setTop (mkF m 25 #[.val (.ref a1), .val (.ref a2)] [(.ref x2)]))
  refine own_st (fun _ k => XS.aloadN X155.here hx rfl (hb hby d14_25) rfl rfl k) ?_
  show own_go _ _ _ _ _ _ _ (T155.setTop (mkF m 26 #[.val (.ref a1), .val (.ref a2)] [(.ref a2), (.ref x2)]))
  obtain ⟨v156, T156, L156, X156, hQ156, st156⟩ := own_callV X155 hx hZ (argsL := []) (rest := [(.ref x2)]) (rm_raggregateId l Z a0 hw a2 y2 h0 n0 O0 F_a2_aggregateId) hown (hw _ (List.mem_of_getElem? (i := 113) rfl)) (hw _ (List.mem_of_getElem? (i := 114) rfl)) (notFace_of_selects (args := #[]) (mvT hZ (hw _ (List.mem_of_getElem? (i := 116) rfl)))) (hw _ (List.mem_of_getElem? (i := 116) rfl)) (hw _ (List.mem_of_getElem? (i := 115) rfl)) (hw _ (List.mem_of_getElem? (i := 58) rfl)) (hw _ (List.mem_of_getElem? (i := 117) rfl)) (by decide) e155 E_a2 (g := (mkF m 26 #[.val (.ref a1), .val (.ref a2)] [(.ref a2), (.ref x2)])) rfl (by rw [hml]; rfl) (lenOf own_pd__28_29Ljava_2flang_2fString_3b rfl) rfl (W := 1) (by show 2 * 0 + _ ≤ _; exact Nat.le_of_eq rfl) (hb hby d14_26) (by decide) (by decide) (by decide) (by decide)
  obtain ⟨rfl, Nq156, eq156⟩ := hQ156
  have N156 := Fr.app N154 Nq156
  refine own_st st156 ?_
  show own_go _ _ _ _ _ _ _ (T156.setTop (mkF m 29 #[.val (.ref a1), .val (.ref a2)] [(.ref y2), (.ref x2)]))
  have heq157 : ∀ d ∈ StrChars.Road.wordsEq, d.before a0 Z = true := fun d hd => hw d ((by decide +kernel : ∀ d ∈ StrChars.Road.wordsEq, d ∈ tables_1) d hd)
  obtain ⟨cq157, kq157, q157a, q157b, q157c⟩ := isOf hZ eq156 E_x2
  obtain ⟨v157, _, ⟨T157, L157, k157, n157⟩, -, X157, ⟨Lc157, ⟨hv157, hL157, eq157⟩, l157, y157, z157⟩, st157⟩ := X156.virtualBack hx (y := (⟨"java/lang/String", "equals", "(Ljava/lang/Object;)Z"⟩ : MethodName)) (z := (⟨"java/lang/String", "equals", "(Ljava/lang/Object;)Z"⟩ : MethodName)) hown (mvT hZ (hw _ (List.mem_of_getElem? (i := 103) rfl))) (mvT hZ (hw _ (List.mem_of_getElem? (i := 104) rfl))) (notFace_of_selects (args := #[]) (mvT hZ (hw _ (List.mem_of_getElem? (i := 106) rfl)))) (mvT hZ (hw _ (List.mem_of_getElem? (i := 106) rfl))) (mvT hZ (hw _ (List.mem_of_getElem? (i := 105) rfl))) (by decide) (StrChars.Road.eqW (W := 0) hZ heq157 (kI := 4) (hw _ (List.mem_of_getElem? (i := 11) rfl)) E_x2 Fv_x2 Fc_x2 Vt_x2 (StrChars.Road.codOf rfl fun c hc => (hb_x2 c hc).2) (fun c hc => own_up (hb_x2 c hc)) hl_x2 E_y2 Fv_y2 Fc_y2 Vt_y2 (StrChars.Road.codOf rfl fun c hc => (hb_y2 c hc).2) (fun c hc => own_up (hb_y2 c hc)) hl_y2 (hS.1.ext O0.2) hS.2 (by decide) (by decide)) q157a q157c (g := (mkF m 29 #[.val (.ref a1), .val (.ref a2)] [(.ref y2), (.ref x2)])) rfl (by rw [hml]; rfl) (Steps.refl _) (argsL := [(.ref y2)]) (rest := []) (lenOf own_pd__28Ljava_2flang_2fObject_3b_29Z rfl) rfl (by show 2 * 0 + _ ≤ _; exact Nat.le_of_eq rfl) (hb hby d14_29) (fun _ _ => ⟨rfl, eq156, (by decide : 0 + 0 ≤ _), (by decide : 0 + 0 ≤ _)⟩)
  dsimp only [Pt.U, Pt.locs, Pt.cells, Pt.slots] at X157 l157 y157 z157 st157 eq157
  subst hL157 l157 y157 z157
  obtain rfl : v157 = some (.int (1 : Int32)) := by rcases hv157 with ⟨q, r⟩ | ⟨q, r⟩ <;> first | exact q | exact absurd h2 r | exact absurd r h2
  have N157 := Fr.app N156 (Fr.nil n0)
  refine own_st (fun _ k => st157.trans k) ?_
  show own_go _ _ _ _ _ _ _ (T157.setTop (mkF m 32 #[.val (.ref a1), .val (.ref a2)] [(.int (1 : Int32))]))
  refine own_st (fun _ k => XS.ifNo X157.here hx rfl (hb hby d14_32) rfl (by decide) k) ?_
  show own_go _ _ _ _ _ _ _ (T157.setTop (mkF m 35 #[.val (.ref a1), .val (.ref a2)] []))
  refine own_st (fun _ k => XS.iconst X157.here hx rfl (hb hby d14_35) k) ?_
  show own_go _ _ _ _ _ _ _ (T157.setTop (mkF m 36 #[.val (.ref a1), .val (.ref a2)] [(.int (1 : Int32))]))
  refine own_st (fun _ k => XS.goto X157.here hx rfl (pc0 := 36) (pc' := 40) rfl (hb hby d14_36) (by decide) (by decide) k) ?_
  show own_go _ _ _ _ _ _ _ (T157.setTop (mkF m 40 #[.val (.ref a1), .val (.ref a2)] [(.int (1 : Int32))]))
  exact own_retN X157 hx hlk (t := .boolean) hret (by simp) rfl (hb hby d14_40) (by decide) (by decide) (⟨rfl, N157, eq157⟩)
theorem own_pn_0 : plainFor x = true := plainFor_of_name (show plainName "com/example/usher/usher/FoundGoesOnPinLaw" = true by first | (simp [plainName, overriddenIn]; done) | decide +kernel)
theorem own_pd__28I_29Ljava_2flang_2fString_3b : parseMethodDescriptor "(I)Ljava/lang/String;" = some ⟨[.int], some (.object "java/lang/String")⟩ := by decide +kernel
theorem own_pd__28Ljava_2flang_2fString_3bLjava_2flang_2fString_3bJJJZZ_29V : parseMethodDescriptor "(Ljava/lang/String;Ljava/lang/String;JJJZZ)V" = some ⟨[(.object "java/lang/String"), (.object "java/lang/String"), .long, .long, .long, .boolean, .boolean], none⟩ := by decide +kernel
theorem own_pd__28Ljava_2flang_2fString_3bLjava_2flang_2fString_3bJJJ_29V : parseMethodDescriptor "(Ljava/lang/String;Ljava/lang/String;JJJ)V" = some ⟨[(.object "java/lang/String"), (.object "java/lang/String"), .long, .long, .long], none⟩ := by decide +kernel
theorem own_pd__28Lcom_2fexample_2fusher_2fusher_2fOutboxRuns_24Run_3b_29Z : parseMethodDescriptor "(Lcom/example/usher/usher/OutboxRuns$Run;)Z" = some ⟨[(.object "com/example/usher/usher/OutboxRuns$Run")], some .boolean⟩ := by decide +kernel
theorem own_pd__28II_29Z : parseMethodDescriptor "(II)Z" = some ⟨[.int, .int], some .boolean⟩ := by decide +kernel
theorem own_ef_rm0 (m : MethodId) (p0 : Int32) (p1 : Int32) (p2 : Int32) (p3 : Int32) (p4 : Int32) (p5 : Int64) : entryFrame m #[(.int p0), (.int p1), (.int p2), (.int p3), (.int p4), (.long p5)] maxLocals = mkF m 0 #[.val (.int p0), .val (.int p1), .val (.int p2), .val (.int p3), .val (.int p4), .val (.long p5), .second, .unset, .unset, .unset, .unset, .unset, .unset, .unset] [] := by first | (simp [entryFrame, mkF, argsToLocals, Value.category, maxLocals]; done) | rfl
set_option maxRecDepth 65536 in
set_option maxHeartbeats 40000000 in
theorem rm0 (l : Launch) (Z : State) (a0 : Array Value) (hw : ∀ d ∈ tables_1, d.before a0 Z = true) (ws : List Jvm.Cond) (p0 p1 p2 p3 p4 : Int32) (p5 : Int64) (z_COMPACT_STRINGS : Int32) (h0 : Heap) (n0 : Nat) (O0 : Old Z n0 h0) (hS : own_S Z z_COMPACT_STRINGS) :
    own_MetW l Z consts_1 x code maxLocals ret ws room_1 #[(.int p0), (.int p1), (.int p2), (.int p3), (.int p4), (.long p5)] h0 (fun v h L => v = some (.int 1) ∧ Fr n0 L) := by
  refine own_bodyW own_pn_0 ?_
  intro p e s m below meth c s₁ hx hby hml hown hnm hret hlk X0 hZ e0 C0 hS0
  have hk0 : h0.size ≤ h0.size := Nat.le_refl _
  have hEL := own_EW hw
  have wS := own_sA hw
  replace hown : s.vm.findClass "com/example/usher/usher/FoundGoesOnPinLaw" = some m.cls := hown
  have N0 := Fr.nil n0
  have K0 := Keep.refl h0 []
  refine own_stW (fun _ k => castTop (own_ef_rm0 m p0 p1 p2 p3 p4 p5) k) ?_
  show own_goW _ _ _ _ _ _ _ _ _ _ (s₁.setTop (mkF m 0 #[.val (.int p0), .val (.int p1), .val (.int p2), .val (.int p3), .val (.int p4), .val (.long p5), .second, .unset, .unset, .unset, .unset, .unset, .unset, .unset] []))
  have tail : ∀ (z7 z8 r9 r10 : Int32), (z7 = 0 ∨ z7 = 1) → (z8 = 0 ∨ z8 = 1) → own_goW Z consts_1 p e below s h0 (fun v h L => v = some (.int 1) ∧ Fr n0 L) room_1.cells room_1.slots (s₁.setTop (mkF m 57 #[.val (.int p0), .val (.int p1), .val (.int p2), .val (.int p3), .val (.int p4), .val (.long p5), .second, .val (.int z7), .val (.int z8), .val (.int r9), .val (.int r10), .unset, .unset, .unset] [])) := by
    intro z7 z8 r9 r10 hz7 hz8
    show own_goW _ _ _ _ _ _ _ _ _ _ (s₁.setTop (mkF m 57 #[.val (.int p0), .val (.int p1), .val (.int p2), .val (.int p3), .val (.int p4), .val (.long p5), .second, .val (.int z7), .val (.int z8), .val (.int r9), .val (.int r10), .unset, .unset, .unset] []))
    obtain ⟨T158, h158, X158, e158, E158, A158, D158, -, st158⟩ := newO X0 hx hZ hown (hw _ (List.mem_of_getElem? (i := 0) rfl)) (hw _ (List.mem_of_getElem? (i := 1) rfl)) (hw _ (List.mem_of_getElem? (i := 2) rfl)) e0 (g := (mkF m 57 #[.val (.int p0), .val (.int p1), .val (.int p2), .val (.int p3), .val (.int p4), .val (.long p5), .second, .val (.int z7), .val (.int z8), .val (.int r9), .val (.int r10), .unset, .unset, .unset] [])) rfl (hb hby at_57) (by decide) (by decide)
    obtain ⟨b158, g158⟩ : ∃ z, z = h0.size := ⟨_, rfl⟩
    rw [← g158] at A158 D158 st158
    have ge_b158 : n0 ≤ b158 := by rw [g158]; exact own_osz O0
    have sz_b158 : h0.size ≤ b158 := by rw [g158]; exact K0.1
    have O158 := O0.ext E158
    have K158 := K0.ext E158
    have Ce158 := C0.trans (CHr.ext E158 C0.1)
    have hke158 := Nat.le_trans hk0 E158.1
    refine own_stW st158 ?_
    show own_goW _ _ _ _ _ _ _ _ _ _ (T158.setTop (mkF m 60 #[.val (.int p0), .val (.int p1), .val (.int p2), .val (.int p3), .val (.int p4), .val (.long p5), .second, .val (.int z7), .val (.int z8), .val (.int r9), .val (.int r10), .unset, .unset, .unset] [(.ref b158)]))
    refine own_stW (fun _ k => XS.dup X158.here hx rfl (hb hby at_60) rfl rfl k) ?_
    show own_goW _ _ _ _ _ _ _ _ _ _ (T158.setTop (mkF m 61 #[.val (.int p0), .val (.int p1), .val (.int p2), .val (.int p3), .val (.int p4), .val (.long p5), .second, .val (.int z7), .val (.int z8), .val (.int r9), .val (.int r10), .unset, .unset, .unset] [(.ref b158), (.ref b158)]))
    refine own_stW (fun _ k => XS.iloadN X158.here hx rfl (hb hby at_61) rfl k) ?_
    show own_goW _ _ _ _ _ _ _ _ _ _ (T158.setTop (mkF m 62 #[.val (.int p0), .val (.int p1), .val (.int p2), .val (.int p3), .val (.int p4), .val (.long p5), .second, .val (.int z7), .val (.int z8), .val (.int r9), .val (.int r10), .unset, .unset, .unset] [(.int p0), (.ref b158), (.ref b158)]))
    obtain ⟨v159, T159, L159, X159, hS159, hZ159, hown159, CH159, hQ159, st159⟩ := own_callSW X158 hx hZ hS0 hke158 hEL Ce158.1 (argsL := [(.int p0)]) (rest := [(.ref b158), (.ref b158)]) (rm_mk l Z a0 hw p0 z_COMPACT_STRINGS h158 n0 O158 hS) hown (hw _ (List.mem_of_getElem? (i := 3) rfl)) (hw _ (List.mem_of_getElem? (i := 4) rfl)) (hw _ (List.mem_of_getElem? (i := 5) rfl)) (hw _ (List.mem_of_getElem? (i := 6) rfl)) (by decide) e158 (g := (mkF m 62 #[.val (.int p0), .val (.int p1), .val (.int p2), .val (.int p3), .val (.int p4), .val (.long p5), .second, .val (.int z7), .val (.int z8), .val (.int r9), .val (.int r10), .unset, .unset, .unset] [(.int p0), (.ref b158), (.ref b158)])) rfl (by rw [hml]; rfl) (lenOf own_pd__28I_29Ljava_2flang_2fString_3b rfl) rfl (W := 2) (by show 2 * 0 + _ ≤ _; exact Nat.le_of_eq rfl) (hb hby at_62) (by decide) (by decide) (by decide) (by decide)
    obtain ⟨r159, rfl, Nq159, Kq159, sz159, A159, Fc159, t159, kt159, Fv159, Vt159⟩ := hQ159
    have N159 := Fr.app N0 Nq159
    have ne_b158_r159 : b158 ≠ r159 := (Nat.ne_of_lt (Nat.lt_of_lt_of_le A158.lt sz159))
    have O159 := O158.keep Kq159 all0
    have K159 := K158.trans Kq159 all0
    have C159 := Ce158.trans CH159
    have hk159 := Nat.le_refl T159.heap.size
    refine own_stW st159 ?_
    show own_goW _ _ _ _ _ _ _ _ _ _ (T159.setTop (mkF m 65 #[.val (.int p0), .val (.int p1), .val (.int p2), .val (.int p3), .val (.int p4), .val (.long p5), .second, .val (.int z7), .val (.int z8), .val (.int r9), .val (.int r10), .unset, .unset, .unset] [(.ref r159), (.ref b158), (.ref b158)]))
    refine own_stW (fun _ k => XS.iloadN X159.here hx rfl (hb hby at_65) rfl k) ?_
    show own_goW _ _ _ _ _ _ _ _ _ _ (T159.setTop (mkF m 66 #[.val (.int p0), .val (.int p1), .val (.int p2), .val (.int p3), .val (.int p4), .val (.long p5), .second, .val (.int z7), .val (.int z8), .val (.int r9), .val (.int r10), .unset, .unset, .unset] [(.int p1), (.ref r159), (.ref b158), (.ref b158)]))
    obtain ⟨v160, T160, L160, X160, hS160, hZ160, hown160, CH160, hQ160, st160⟩ := own_callSW X159 hx hZ159 hS159 hk159 hEL C159.1 (argsL := [(.int p1)]) (rest := [(.ref r159), (.ref b158), (.ref b158)]) (rm_mk l Z a0 hw p1 z_COMPACT_STRINGS T159.heap n0 O159 hS) hown159 (hw _ (List.mem_of_getElem? (i := 3) rfl)) (hw _ (List.mem_of_getElem? (i := 4) rfl)) (hw _ (List.mem_of_getElem? (i := 5) rfl)) (hw _ (List.mem_of_getElem? (i := 6) rfl)) (by decide) rfl (g := (mkF m 66 #[.val (.int p0), .val (.int p1), .val (.int p2), .val (.int p3), .val (.int p4), .val (.long p5), .second, .val (.int z7), .val (.int z8), .val (.int r9), .val (.int r10), .unset, .unset, .unset] [(.int p1), (.ref r159), (.ref b158), (.ref b158)])) rfl (by rw [hml]; rfl) (lenOf own_pd__28I_29Ljava_2flang_2fString_3b rfl) rfl (W := 3) (by show 2 * 0 + _ ≤ _; exact Nat.le_of_eq rfl) (hb hby at_66) (by decide) (by decide) (by decide) (by decide)
    obtain ⟨r160, rfl, Nq160, Kq160, sz160, A160, Fc160, t160, kt160, Fv160, Vt160⟩ := hQ160
    have N160 := Fr.app N159 Nq160
    have f161 := (A158.keep Kq159)
    have ne_b158_r160 : b158 ≠ r160 := (Nat.ne_of_lt (Nat.lt_of_lt_of_le f161.lt sz160))
    have ne_r159_r160 : r159 ≠ r160 := (Nat.ne_of_lt (Nat.lt_of_lt_of_le A159.lt sz160))
    have ne_t159_r160 : t159 ≠ r160 := (Nat.ne_of_lt (Nat.lt_of_lt_of_le Vt159.lt sz160))
    have O160 := O159.keep Kq160 all0
    have K160 := K159.trans Kq160 all0
    have C160 := C159.trans CH160
    have hk160 := Nat.le_refl T160.heap.size
    refine own_stW st160 ?_
    show own_goW _ _ _ _ _ _ _ _ _ _ (T160.setTop (mkF m 69 #[.val (.int p0), .val (.int p1), .val (.int p2), .val (.int p3), .val (.int p4), .val (.long p5), .second, .val (.int z7), .val (.int z8), .val (.int r9), .val (.int r10), .unset, .unset, .unset] [(.ref r160), (.ref r159), (.ref b158), (.ref b158)]))
    refine own_stW (fun _ k => XS.lload X160.here hx rfl (hb hby at_69) rfl k) ?_
    show own_goW _ _ _ _ _ _ _ _ _ _ (T160.setTop (mkF m 71 #[.val (.int p0), .val (.int p1), .val (.int p2), .val (.int p3), .val (.int p4), .val (.long p5), .second, .val (.int z7), .val (.int z8), .val (.int r9), .val (.int r10), .unset, .unset, .unset] [(.long p5), (.ref r160), (.ref r159), (.ref b158), (.ref b158)]))
    refine own_stW (fun _ k => XS.lload X160.here hx rfl (hb hby at_71) rfl k) ?_
    show own_goW _ _ _ _ _ _ _ _ _ _ (T160.setTop (mkF m 73 #[.val (.int p0), .val (.int p1), .val (.int p2), .val (.int p3), .val (.int p4), .val (.long p5), .second, .val (.int z7), .val (.int z8), .val (.int r9), .val (.int r10), .unset, .unset, .unset] [(.long p5), (.long p5), (.ref r160), (.ref r159), (.ref b158), (.ref b158)]))
    refine own_stW (X160.ldc2Long hx hown160 (mvT hZ160 (hw _ (List.mem_of_getElem? (i := 32) rfl))) (g := (mkF m 73 #[.val (.int p0), .val (.int p1), .val (.int p2), .val (.int p3), .val (.int p4), .val (.long p5), .second, .val (.int z7), .val (.int z8), .val (.int r9), .val (.int r10), .unset, .unset, .unset] [(.long p5), (.long p5), (.ref r160), (.ref r159), (.ref b158), (.ref b158)])) rfl (hb hby at_73)) ?_
    show own_goW _ _ _ _ _ _ _ _ _ _ (T160.setTop (mkF m 76 #[.val (.int p0), .val (.int p1), .val (.int p2), .val (.int p3), .val (.int p4), .val (.long p5), .second, .val (.int z7), .val (.int z8), .val (.int r9), .val (.int r10), .unset, .unset, .unset] [(.long (-1 : Int64)), (.long p5), (.long p5), (.ref r160), (.ref r159), (.ref b158), (.ref b158)]))
    refine own_stW (fun _ k => XS.lxor X160.here hx rfl (hb hby at_76) rfl k) ?_
    show own_goW _ _ _ _ _ _ _ _ _ _ (T160.setTop (mkF m 77 #[.val (.int p0), .val (.int p1), .val (.int p2), .val (.int p3), .val (.int p4), .val (.long p5), .second, .val (.int z7), .val (.int z8), .val (.int r9), .val (.int r10), .unset, .unset, .unset] [(.long (p5 ^^^ (-1 : Int64))), (.long p5), (.ref r160), (.ref r159), (.ref b158), (.ref b158)]))
    refine own_stW (fun _ k => XS.lload X160.here hx rfl (hb hby at_77) rfl k) ?_
    show own_goW _ _ _ _ _ _ _ _ _ _ (T160.setTop (mkF m 79 #[.val (.int p0), .val (.int p1), .val (.int p2), .val (.int p3), .val (.int p4), .val (.long p5), .second, .val (.int z7), .val (.int z8), .val (.int r9), .val (.int r10), .unset, .unset, .unset] [(.long p5), (.long (p5 ^^^ (-1 : Int64))), (.long p5), (.ref r160), (.ref r159), (.ref b158), (.ref b158)]))
    refine own_stW (fun _ k => XS.iconst X160.here hx rfl (hb hby at_79) k) ?_
    show own_goW _ _ _ _ _ _ _ _ _ _ (T160.setTop (mkF m 80 #[.val (.int p0), .val (.int p1), .val (.int p2), .val (.int p3), .val (.int p4), .val (.long p5), .second, .val (.int z7), .val (.int z8), .val (.int r9), .val (.int r10), .unset, .unset, .unset] [(.int (1 : Int32)), (.long p5), (.long (p5 ^^^ (-1 : Int64))), (.long p5), (.ref r160), (.ref r159), (.ref b158), (.ref b158)]))
    refine own_stW (fun _ k => XS.lushr X160.here hx rfl (hb hby at_80) rfl k) ?_
    show own_goW _ _ _ _ _ _ _ _ _ _ (T160.setTop (mkF m 81 #[.val (.int p0), .val (.int p1), .val (.int p2), .val (.int p3), .val (.int p4), .val (.long p5), .second, .val (.int z7), .val (.int z8), .val (.int r9), .val (.int r10), .unset, .unset, .unset] [(.long ((p5.toUInt64 >>> ((1 : Int32) &&& 0x3f).toInt64.toUInt64).toInt64)), (.long (p5 ^^^ (-1 : Int64))), (.long p5), (.ref r160), (.ref r159), (.ref b158), (.ref b158)]))
    refine own_stW (fun _ k => XS.iload X160.here hx rfl (hb hby at_81) rfl k) ?_
    show own_goW _ _ _ _ _ _ _ _ _ _ (T160.setTop (mkF m 83 #[.val (.int p0), .val (.int p1), .val (.int p2), .val (.int p3), .val (.int p4), .val (.long p5), .second, .val (.int z7), .val (.int z8), .val (.int r9), .val (.int r10), .unset, .unset, .unset] [(.int z7), (.long ((p5.toUInt64 >>> ((1 : Int32) &&& 0x3f).toInt64.toUInt64).toInt64)), (.long (p5 ^^^ (-1 : Int64))), (.long p5), (.ref r160), (.ref r159), (.ref b158), (.ref b158)]))
    refine own_stW (fun _ k => XS.iload X160.here hx rfl (hb hby at_83) rfl k) ?_
    show own_goW _ _ _ _ _ _ _ _ _ _ (T160.setTop (mkF m 85 #[.val (.int p0), .val (.int p1), .val (.int p2), .val (.int p3), .val (.int p4), .val (.long p5), .second, .val (.int z7), .val (.int z8), .val (.int r9), .val (.int r10), .unset, .unset, .unset] [(.int z8), (.int z7), (.long ((p5.toUInt64 >>> ((1 : Int32) &&& 0x3f).toInt64.toUInt64).toInt64)), (.long (p5 ^^^ (-1 : Int64))), (.long p5), (.ref r160), (.ref r159), (.ref b158), (.ref b158)]))
    have f162 := (f161.keep Kq160)
    have f163 := (Vt159.keep Kq160 nin0)
    have ne_b158_t159 : b158 ≠ t159 := Exa.neArv f162 f163 (hw _ (List.mem_of_getElem? (i := 1) rfl))
    have ne_b158_t160 : b158 ≠ t160 := Exa.neArv f162 Vt160 (hw _ (List.mem_of_getElem? (i := 1) rfl))
    have f165 := (((D158 (Or.inr (hw _ (List.mem_of_getElem? (i := 43) rfl))) (ty := (.object "java/lang/String")) (by decide)).keep Kq159 nin0).keep Kq160 nin0)
    have f166 := (((D158 (Or.inr (hw _ (List.mem_of_getElem? (i := 45) rfl))) (ty := (.object "java/lang/String")) (by decide)).keep Kq159 nin0).keep Kq160 nin0)
    have f167 := (((D158 (Or.inr (hw _ (List.mem_of_getElem? (i := 47) rfl))) (ty := .long) (by decide)).keep Kq159 nin0).keep Kq160 nin0)
    have f168 := (((D158 (Or.inr (hw _ (List.mem_of_getElem? (i := 49) rfl))) (ty := .long) (by decide)).keep Kq159 nin0).keep Kq160 nin0)
    have f169 := (((D158 (Or.inr (hw _ (List.mem_of_getElem? (i := 51) rfl))) (ty := .long) (by decide)).keep Kq159 nin0).keep Kq160 nin0)
    have f170 := (((D158 (Or.inr (hw _ (List.mem_of_getElem? (i := 53) rfl))) (ty := .boolean) (by decide)).keep Kq159 nin0).keep Kq160 nin0)
    have f171 := (((D158 (Or.inr (hw _ (List.mem_of_getElem? (i := 55) rfl))) (ty := .boolean) (by decide)).keep Kq159 nin0).keep Kq160 nin0)
    obtain ⟨v164, T164, L164, X164, hQ164, st164⟩ := own_callN X160 hx hZ160 (argsL := [(.ref r159), (.ref r160), (.long p5), (.long (p5 ^^^ (-1 : Int64))), (.long ((p5.toUInt64 >>> ((1 : Int32) &&& 0x3f).toInt64.toUInt64).toInt64)), (.int z7), (.int z8)]) (rest := [(.ref b158)]) (rm_finit l Z a0 hw b158 r159 r160 p5 (p5 ^^^ (-1 : Int64)) ((p5.toUInt64 >>> ((1 : Int32) &&& 0x3f).toInt64.toUInt64).toInt64) z7 z8 T160.heap n0 O160 hz7 hz8 ge_b158 f162 f165 f166 f167 f168 f169 f170 f171) rfl hown160 (hw _ (List.mem_of_getElem? (i := 33) rfl)) (hw _ (List.mem_of_getElem? (i := 34) rfl)) (hw _ (List.mem_of_getElem? (i := 2) rfl)) (hw _ (List.mem_of_getElem? (i := 35) rfl)) (by decide) rfl (g := (mkF m 85 #[.val (.int p0), .val (.int p1), .val (.int p2), .val (.int p3), .val (.int p4), .val (.long p5), .second, .val (.int z7), .val (.int z8), .val (.int r9), .val (.int r10), .unset, .unset, .unset] [(.int z8), (.int z7), (.long ((p5.toUInt64 >>> ((1 : Int32) &&& 0x3f).toInt64.toUInt64).toInt64)), (.long (p5 ^^^ (-1 : Int64))), (.long p5), (.ref r160), (.ref r159), (.ref b158), (.ref b158)])) rfl (by rw [hml]; rfl) (lenOf own_pd__28Ljava_2flang_2fString_3bLjava_2flang_2fString_3bJJJZZ_29V rfl) rfl (W := 1) (by show 2 * 0 + _ ≤ _; exact Nat.le_of_eq rfl) (hb hby at_85) (by decide) (by decide) (by decide) (by decide)
    obtain ⟨rfl, Nq164, Kq164, F164_0, F164_1, F164_2⟩ := hQ164
    have N164 := Fr.app N160 Nq164
    have Ck164 := C160.trans (CHr.keep Kq164 (allS (Safe.exa hZ160.alike f162 (by decide) (by decide)) all0) C160.1)
    have hkk164 := Nat.le_trans hk160 Kq164.1
    have O164 := O160.keep Kq164 (allS ge_b158 all0)
    have K164 := K160.trans Kq164 (allS (Or.inr sz_b158) all0)
    refine own_stW st164 ?_
    show own_goW _ _ _ _ _ _ _ _ _ _ (T164.setTop (mkF m 88 #[.val (.int p0), .val (.int p1), .val (.int p2), .val (.int p3), .val (.int p4), .val (.long p5), .second, .val (.int z7), .val (.int z8), .val (.int r9), .val (.int r10), .unset, .unset, .unset] [(.ref b158)]))
    refine own_stW (fun _ k => XS.astore X164.here hx rfl (hb hby at_88) rfl rfl (l' := #[.val (.int p0), .val (.int p1), .val (.int p2), .val (.int p3), .val (.int p4), .val (.long p5), .second, .val (.int z7), .val (.int z8), .val (.int r9), .val (.int r10), .val (.ref b158), .unset, .unset]) rfl k) ?_
    show own_goW _ _ _ _ _ _ _ _ _ _ (T164.setTop (mkF m 90 #[.val (.int p0), .val (.int p1), .val (.int p2), .val (.int p3), .val (.int p4), .val (.long p5), .second, .val (.int z7), .val (.int z8), .val (.int r9), .val (.int r10), .val (.ref b158), .unset, .unset] []))
    obtain ⟨T172, h172, X172, e172, E172, A172, D172, -, st172⟩ := newO X164 hx hZ160 hown160 (hw _ (List.mem_of_getElem? (i := 56) rfl)) (hw _ (List.mem_of_getElem? (i := 57) rfl)) (hw _ (List.mem_of_getElem? (i := 58) rfl)) rfl (g := (mkF m 90 #[.val (.int p0), .val (.int p1), .val (.int p2), .val (.int p3), .val (.int p4), .val (.long p5), .second, .val (.int z7), .val (.int z8), .val (.int r9), .val (.int r10), .val (.ref b158), .unset, .unset] [])) rfl (hb hby at_90) (by decide) (by decide)
    obtain ⟨b172, g172⟩ : ∃ z, z = T164.heap.size := ⟨_, rfl⟩
    rw [← g172] at A172 D172 st172
    have ge_b172 : n0 ≤ b172 := by rw [g172]; exact own_osz O164
    have sz_b172 : h0.size ≤ b172 := by rw [g172]; exact K164.1
    have f173 := (f162.keep Kq164)
    have ne_b158_b172 : b158 ≠ b172 := (fun q => absurd f173.lt (by rw [q, g172]; exact Nat.lt_irrefl _))
    have f174 := ((A159.keep Kq160).keep Kq164)
    have ne_r159_b172 : r159 ≠ b172 := (fun q => absurd f174.lt (by rw [q, g172]; exact Nat.lt_irrefl _))
    have f175 := (f163.keep Kq164 (ninS (Ne.symm ne_b158_t159) nin0))
    have ne_t159_b172 : t159 ≠ b172 := (fun q => absurd f175.lt (by rw [q, g172]; exact Nat.lt_irrefl _))
    have f176 := (A160.keep Kq164)
    have ne_r160_b172 : r160 ≠ b172 := (fun q => absurd f176.lt (by rw [q, g172]; exact Nat.lt_irrefl _))
    have f177 := (Vt160.keep Kq164 (ninS (Ne.symm ne_b158_t160) nin0))
    have ne_t160_b172 : t160 ≠ b172 := (fun q => absurd f177.lt (by rw [q, g172]; exact Nat.lt_irrefl _))
    have O172 := O164.ext E172
    have K172 := K164.ext E172
    have Ce172 := Ck164.trans (CHr.ext E172 Ck164.1)
    have hke172 := Nat.le_trans hkk164 E172.1
    refine own_stW st172 ?_
    show own_goW _ _ _ _ _ _ _ _ _ _ (T172.setTop (mkF m 93 #[.val (.int p0), .val (.int p1), .val (.int p2), .val (.int p3), .val (.int p4), .val (.long p5), .second, .val (.int z7), .val (.int z8), .val (.int r9), .val (.int r10), .val (.ref b158), .unset, .unset] [(.ref b172)]))
    refine own_stW (fun _ k => XS.dup X172.here hx rfl (hb hby at_93) rfl rfl k) ?_
    show own_goW _ _ _ _ _ _ _ _ _ _ (T172.setTop (mkF m 94 #[.val (.int p0), .val (.int p1), .val (.int p2), .val (.int p3), .val (.int p4), .val (.long p5), .second, .val (.int z7), .val (.int z8), .val (.int r9), .val (.int r10), .val (.ref b158), .unset, .unset] [(.ref b172), (.ref b172)]))
    refine own_stW (fun _ k => XS.iload X172.here hx rfl (hb hby at_94) rfl k) ?_
    show own_goW _ _ _ _ _ _ _ _ _ _ (T172.setTop (mkF m 96 #[.val (.int p0), .val (.int p1), .val (.int p2), .val (.int p3), .val (.int p4), .val (.long p5), .second, .val (.int z7), .val (.int z8), .val (.int r9), .val (.int r10), .val (.ref b158), .unset, .unset] [(.int r9), (.ref b172), (.ref b172)]))
    obtain ⟨v178, T178, L178, X178, hS178, hZ178, hown178, CH178, hQ178, st178⟩ := own_callSW X172 hx hZ160 hS160 hke172 hEL Ce172.1 (argsL := [(.int r9)]) (rest := [(.ref b172), (.ref b172)]) (rm_mk l Z a0 hw r9 z_COMPACT_STRINGS h172 n0 O172 hS) hown160 (hw _ (List.mem_of_getElem? (i := 3) rfl)) (hw _ (List.mem_of_getElem? (i := 4) rfl)) (hw _ (List.mem_of_getElem? (i := 5) rfl)) (hw _ (List.mem_of_getElem? (i := 6) rfl)) (by decide) e172 (g := (mkF m 96 #[.val (.int p0), .val (.int p1), .val (.int p2), .val (.int p3), .val (.int p4), .val (.long p5), .second, .val (.int z7), .val (.int z8), .val (.int r9), .val (.int r10), .val (.ref b158), .unset, .unset] [(.int r9), (.ref b172), (.ref b172)])) rfl (by rw [hml]; rfl) (lenOf own_pd__28I_29Ljava_2flang_2fString_3b rfl) rfl (W := 2) (by show 2 * 0 + _ ≤ _; exact Nat.le_of_eq rfl) (hb hby at_96) (by decide) (by decide) (by decide) (by decide)
    obtain ⟨r178, rfl, Nq178, Kq178, sz178, A178, Fc178, t178, kt178, Fv178, Vt178⟩ := hQ178
    have N178 := Fr.app N164 Nq178
    have f179 := (f173.ext E172)
    have ne_b158_r178 : b158 ≠ r178 := (Nat.ne_of_lt (Nat.lt_of_lt_of_le f179.lt sz178))
    have f180 := (f174.ext E172)
    have ne_r159_r178 : r159 ≠ r178 := (Nat.ne_of_lt (Nat.lt_of_lt_of_le f180.lt sz178))
    have f181 := (f175.ext E172)
    have ne_t159_r178 : t159 ≠ r178 := (Nat.ne_of_lt (Nat.lt_of_lt_of_le f181.lt sz178))
    have f182 := (f176.ext E172)
    have ne_r160_r178 : r160 ≠ r178 := (Nat.ne_of_lt (Nat.lt_of_lt_of_le f182.lt sz178))
    have f183 := (f177.ext E172)
    have ne_t160_r178 : t160 ≠ r178 := (Nat.ne_of_lt (Nat.lt_of_lt_of_le f183.lt sz178))
    have ne_b172_r178 : b172 ≠ r178 := (Nat.ne_of_lt (Nat.lt_of_lt_of_le A172.lt sz178))
    have O178 := O172.keep Kq178 all0
    have K178 := K172.trans Kq178 all0
    have C178 := Ce172.trans CH178
    have hk178 := Nat.le_refl T178.heap.size
    refine own_stW st178 ?_
    show own_goW _ _ _ _ _ _ _ _ _ _ (T178.setTop (mkF m 99 #[.val (.int p0), .val (.int p1), .val (.int p2), .val (.int p3), .val (.int p4), .val (.long p5), .second, .val (.int z7), .val (.int z8), .val (.int r9), .val (.int r10), .val (.ref b158), .unset, .unset] [(.ref r178), (.ref b172), (.ref b172)]))
    refine own_stW (fun _ k => XS.iload X178.here hx rfl (hb hby at_99) rfl k) ?_
    show own_goW _ _ _ _ _ _ _ _ _ _ (T178.setTop (mkF m 101 #[.val (.int p0), .val (.int p1), .val (.int p2), .val (.int p3), .val (.int p4), .val (.long p5), .second, .val (.int z7), .val (.int z8), .val (.int r9), .val (.int r10), .val (.ref b158), .unset, .unset] [(.int r10), (.ref r178), (.ref b172), (.ref b172)]))
    obtain ⟨v184, T184, L184, X184, hS184, hZ184, hown184, CH184, hQ184, st184⟩ := own_callSW X178 hx hZ178 hS178 hk178 hEL C178.1 (argsL := [(.int r10)]) (rest := [(.ref r178), (.ref b172), (.ref b172)]) (rm_mk l Z a0 hw r10 z_COMPACT_STRINGS T178.heap n0 O178 hS) hown178 (hw _ (List.mem_of_getElem? (i := 3) rfl)) (hw _ (List.mem_of_getElem? (i := 4) rfl)) (hw _ (List.mem_of_getElem? (i := 5) rfl)) (hw _ (List.mem_of_getElem? (i := 6) rfl)) (by decide) rfl (g := (mkF m 101 #[.val (.int p0), .val (.int p1), .val (.int p2), .val (.int p3), .val (.int p4), .val (.long p5), .second, .val (.int z7), .val (.int z8), .val (.int r9), .val (.int r10), .val (.ref b158), .unset, .unset] [(.int r10), (.ref r178), (.ref b172), (.ref b172)])) rfl (by rw [hml]; rfl) (lenOf own_pd__28I_29Ljava_2flang_2fString_3b rfl) rfl (W := 3) (by show 2 * 0 + _ ≤ _; exact Nat.le_of_eq rfl) (hb hby at_101) (by decide) (by decide) (by decide) (by decide)
    obtain ⟨r184, rfl, Nq184, Kq184, sz184, A184, Fc184, t184, kt184, Fv184, Vt184⟩ := hQ184
    have N184 := Fr.app N178 Nq184
    have f185 := (f179.keep Kq178)
    have ne_b158_r184 : b158 ≠ r184 := (Nat.ne_of_lt (Nat.lt_of_lt_of_le f185.lt sz184))
    have f186 := (f180.keep Kq178)
    have ne_r159_r184 : r159 ≠ r184 := (Nat.ne_of_lt (Nat.lt_of_lt_of_le f186.lt sz184))
    have f187 := (f181.keep Kq178 nin0)
    have ne_t159_r184 : t159 ≠ r184 := (Nat.ne_of_lt (Nat.lt_of_lt_of_le f187.lt sz184))
    have f188 := (f182.keep Kq178)
    have ne_r160_r184 : r160 ≠ r184 := (Nat.ne_of_lt (Nat.lt_of_lt_of_le f188.lt sz184))
    have f189 := (f183.keep Kq178 nin0)
    have ne_t160_r184 : t160 ≠ r184 := (Nat.ne_of_lt (Nat.lt_of_lt_of_le f189.lt sz184))
    have f190 := (A172.keep Kq178)
    have ne_b172_r184 : b172 ≠ r184 := (Nat.ne_of_lt (Nat.lt_of_lt_of_le f190.lt sz184))
    have ne_r178_r184 : r178 ≠ r184 := (Nat.ne_of_lt (Nat.lt_of_lt_of_le A178.lt sz184))
    have ne_t178_r184 : t178 ≠ r184 := (Nat.ne_of_lt (Nat.lt_of_lt_of_le Vt178.lt sz184))
    have O184 := O178.keep Kq184 all0
    have K184 := K178.trans Kq184 all0
    have C184 := C178.trans CH184
    have hk184 := Nat.le_refl T184.heap.size
    refine own_stW st184 ?_
    show own_goW _ _ _ _ _ _ _ _ _ _ (T184.setTop (mkF m 104 #[.val (.int p0), .val (.int p1), .val (.int p2), .val (.int p3), .val (.int p4), .val (.long p5), .second, .val (.int z7), .val (.int z8), .val (.int r9), .val (.int r10), .val (.ref b158), .unset, .unset] [(.ref r184), (.ref r178), (.ref b172), (.ref b172)]))
    refine own_stW (fun _ k => XS.lload X184.here hx rfl (hb hby at_104) rfl k) ?_
    show own_goW _ _ _ _ _ _ _ _ _ _ (T184.setTop (mkF m 106 #[.val (.int p0), .val (.int p1), .val (.int p2), .val (.int p3), .val (.int p4), .val (.long p5), .second, .val (.int z7), .val (.int z8), .val (.int r9), .val (.int r10), .val (.ref b158), .unset, .unset] [(.long p5), (.ref r184), (.ref r178), (.ref b172), (.ref b172)]))
    refine own_stW (X184.ldc2Long hx hown184 (mvT hZ184 (hw _ (List.mem_of_getElem? (i := 32) rfl))) (g := (mkF m 106 #[.val (.int p0), .val (.int p1), .val (.int p2), .val (.int p3), .val (.int p4), .val (.long p5), .second, .val (.int z7), .val (.int z8), .val (.int r9), .val (.int r10), .val (.ref b158), .unset, .unset] [(.long p5), (.ref r184), (.ref r178), (.ref b172), (.ref b172)])) rfl (hb hby at_106)) ?_
    show own_goW _ _ _ _ _ _ _ _ _ _ (T184.setTop (mkF m 109 #[.val (.int p0), .val (.int p1), .val (.int p2), .val (.int p3), .val (.int p4), .val (.long p5), .second, .val (.int z7), .val (.int z8), .val (.int r9), .val (.int r10), .val (.ref b158), .unset, .unset] [(.long (-1 : Int64)), (.long p5), (.ref r184), (.ref r178), (.ref b172), (.ref b172)]))
    refine own_stW (fun _ k => XS.lxor X184.here hx rfl (hb hby at_109) rfl k) ?_
    show own_goW _ _ _ _ _ _ _ _ _ _ (T184.setTop (mkF m 110 #[.val (.int p0), .val (.int p1), .val (.int p2), .val (.int p3), .val (.int p4), .val (.long p5), .second, .val (.int z7), .val (.int z8), .val (.int r9), .val (.int r10), .val (.ref b158), .unset, .unset] [(.long (p5 ^^^ (-1 : Int64))), (.ref r184), (.ref r178), (.ref b172), (.ref b172)]))
    refine own_stW (fun _ k => XS.lload X184.here hx rfl (hb hby at_110) rfl k) ?_
    show own_goW _ _ _ _ _ _ _ _ _ _ (T184.setTop (mkF m 112 #[.val (.int p0), .val (.int p1), .val (.int p2), .val (.int p3), .val (.int p4), .val (.long p5), .second, .val (.int z7), .val (.int z8), .val (.int r9), .val (.int r10), .val (.ref b158), .unset, .unset] [(.long p5), (.long (p5 ^^^ (-1 : Int64))), (.ref r184), (.ref r178), (.ref b172), (.ref b172)]))
    refine own_stW (fun _ k => XS.lload X184.here hx rfl (hb hby at_112) rfl k) ?_
    show own_goW _ _ _ _ _ _ _ _ _ _ (T184.setTop (mkF m 114 #[.val (.int p0), .val (.int p1), .val (.int p2), .val (.int p3), .val (.int p4), .val (.long p5), .second, .val (.int z7), .val (.int z8), .val (.int r9), .val (.int r10), .val (.ref b158), .unset, .unset] [(.long p5), (.long p5), (.long (p5 ^^^ (-1 : Int64))), (.ref r184), (.ref r178), (.ref b172), (.ref b172)]))
    refine own_stW (fun _ k => XS.iconst X184.here hx rfl (hb hby at_114) k) ?_
    show own_goW _ _ _ _ _ _ _ _ _ _ (T184.setTop (mkF m 115 #[.val (.int p0), .val (.int p1), .val (.int p2), .val (.int p3), .val (.int p4), .val (.long p5), .second, .val (.int z7), .val (.int z8), .val (.int r9), .val (.int r10), .val (.ref b158), .unset, .unset] [(.int (3 : Int32)), (.long p5), (.long p5), (.long (p5 ^^^ (-1 : Int64))), (.ref r184), (.ref r178), (.ref b172), (.ref b172)]))
    refine own_stW (fun _ k => XS.lshr X184.here hx rfl (hb hby at_115) rfl k) ?_
    show own_goW _ _ _ _ _ _ _ _ _ _ (T184.setTop (mkF m 116 #[.val (.int p0), .val (.int p1), .val (.int p2), .val (.int p3), .val (.int p4), .val (.long p5), .second, .val (.int z7), .val (.int z8), .val (.int r9), .val (.int r10), .val (.ref b158), .unset, .unset] [(.long (p5 >>> ((3 : Int32) &&& 0x3f).toInt64)), (.long p5), (.long (p5 ^^^ (-1 : Int64))), (.ref r184), (.ref r178), (.ref b172), (.ref b172)]))
    have f191 := (f190.keep Kq184)
    have f192 := (Vt178.keep Kq184 nin0)
    have ne_b172_t178 : b172 ≠ t178 := Exa.neArv f191 f192 (hw _ (List.mem_of_getElem? (i := 57) rfl))
    have ne_b172_t184 : b172 ≠ t184 := Exa.neArv f191 Vt184 (hw _ (List.mem_of_getElem? (i := 57) rfl))
    have f194 := (((D172 (Or.inr (hw _ (List.mem_of_getElem? (i := 81) rfl))) (ty := (.object "java/lang/String")) (by decide)).keep Kq178 nin0).keep Kq184 nin0)
    have f195 := (((D172 (Or.inr (hw _ (List.mem_of_getElem? (i := 83) rfl))) (ty := (.object "java/lang/String")) (by decide)).keep Kq178 nin0).keep Kq184 nin0)
    have f196 := (((D172 (Or.inr (hw _ (List.mem_of_getElem? (i := 85) rfl))) (ty := .long) (by decide)).keep Kq178 nin0).keep Kq184 nin0)
    have f197 := (((D172 (Or.inr (hw _ (List.mem_of_getElem? (i := 87) rfl))) (ty := .long) (by decide)).keep Kq178 nin0).keep Kq184 nin0)
    have f198 := (((D172 (Or.inr (hw _ (List.mem_of_getElem? (i := 89) rfl))) (ty := .long) (by decide)).keep Kq178 nin0).keep Kq184 nin0)
    obtain ⟨v193, T193, L193, X193, hQ193, st193⟩ := own_callN X184 hx hZ184 (argsL := [(.ref r178), (.ref r184), (.long (p5 ^^^ (-1 : Int64))), (.long p5), (.long (p5 >>> ((3 : Int32) &&& 0x3f).toInt64))]) (rest := [(.ref b172)]) (rm_rinit l Z a0 hw b172 r178 r184 (p5 ^^^ (-1 : Int64)) p5 (p5 >>> ((3 : Int32) &&& 0x3f).toInt64) T184.heap n0 O184 ge_b172 f191 f194 f195 f196 f197 f198) rfl hown184 (hw _ (List.mem_of_getElem? (i := 76) rfl)) (hw _ (List.mem_of_getElem? (i := 77) rfl)) (hw _ (List.mem_of_getElem? (i := 58) rfl)) (hw _ (List.mem_of_getElem? (i := 78) rfl)) (by decide) rfl (g := (mkF m 116 #[.val (.int p0), .val (.int p1), .val (.int p2), .val (.int p3), .val (.int p4), .val (.long p5), .second, .val (.int z7), .val (.int z8), .val (.int r9), .val (.int r10), .val (.ref b158), .unset, .unset] [(.long (p5 >>> ((3 : Int32) &&& 0x3f).toInt64)), (.long p5), (.long (p5 ^^^ (-1 : Int64))), (.ref r184), (.ref r178), (.ref b172), (.ref b172)])) rfl (by rw [hml]; rfl) (lenOf own_pd__28Ljava_2flang_2fString_3bLjava_2flang_2fString_3bJJJ_29V rfl) rfl (W := 1) (by show 2 * 0 + _ ≤ _; exact Nat.le_of_eq rfl) (hb hby at_116) (by decide) (by decide) (by decide) (by decide)
    obtain ⟨rfl, Nq193, Kq193, F193_0, F193_1⟩ := hQ193
    have N193 := Fr.app N184 Nq193
    have Ck193 := C184.trans (CHr.keep Kq193 (allS (Safe.exa hZ184.alike f191 (by decide) (by decide)) all0) C184.1)
    have hkk193 := Nat.le_trans hk184 Kq193.1
    have O193 := O184.keep Kq193 (allS ge_b172 all0)
    have K193 := K184.trans Kq193 (allS (Or.inr sz_b172) all0)
    refine own_stW st193 ?_
    show own_goW _ _ _ _ _ _ _ _ _ _ (T193.setTop (mkF m 119 #[.val (.int p0), .val (.int p1), .val (.int p2), .val (.int p3), .val (.int p4), .val (.long p5), .second, .val (.int z7), .val (.int z8), .val (.int r9), .val (.int r10), .val (.ref b158), .unset, .unset] [(.ref b172)]))
    refine own_stW (fun _ k => XS.astore X193.here hx rfl (hb hby at_119) rfl rfl (l' := #[.val (.int p0), .val (.int p1), .val (.int p2), .val (.int p3), .val (.int p4), .val (.long p5), .second, .val (.int z7), .val (.int z8), .val (.int r9), .val (.int r10), .val (.ref b158), .val (.ref b172), .unset]) rfl k) ?_
    show own_goW _ _ _ _ _ _ _ _ _ _ (T193.setTop (mkF m 121 #[.val (.int p0), .val (.int p1), .val (.int p2), .val (.int p3), .val (.int p4), .val (.long p5), .second, .val (.int z7), .val (.int z8), .val (.int r9), .val (.int r10), .val (.ref b158), .val (.ref b172), .unset] []))
    refine own_stW (fun _ k => XS.iload X193.here hx rfl (hb hby at_121) rfl k) ?_
    show own_goW _ _ _ _ _ _ _ _ _ _ (T193.setTop (mkF m 123 #[.val (.int p0), .val (.int p1), .val (.int p2), .val (.int p3), .val (.int p4), .val (.long p5), .second, .val (.int z7), .val (.int z8), .val (.int r9), .val (.int r10), .val (.ref b158), .val (.ref b172), .unset] [(.int z7)]))
    by_cases hc199 : z7 = (0 : Int32)
    · skip
      refine own_stW (fun _ k => XS.ifYes X193.here hx rfl (pc0 := 123) (pc' := 148) rfl (hb hby at_123) rfl (XT.i0_eq_t hc199) (by decide) (by decide) k) ?_
      show own_goW _ _ _ _ _ _ _ _ _ _ (T193.setTop (mkF m 148 #[.val (.int p0), .val (.int p1), .val (.int p2), .val (.int p3), .val (.int p4), .val (.long p5), .second, .val (.int z7), .val (.int z8), .val (.int r9), .val (.int r10), .val (.ref b158), .val (.ref b172), .unset] []))
      refine own_stW (fun _ k => XS.iconst X193.here hx rfl (hb hby at_148) k) ?_
      show own_goW _ _ _ _ _ _ _ _ _ _ (T193.setTop (mkF m 149 #[.val (.int p0), .val (.int p1), .val (.int p2), .val (.int p3), .val (.int p4), .val (.long p5), .second, .val (.int z7), .val (.int z8), .val (.int r9), .val (.int r10), .val (.ref b158), .val (.ref b172), .unset] [(.int (0 : Int32))]))
      refine own_stW (fun _ k => XS.istore X193.here hx rfl (hb hby at_149) rfl (l' := #[.val (.int p0), .val (.int p1), .val (.int p2), .val (.int p3), .val (.int p4), .val (.long p5), .second, .val (.int z7), .val (.int z8), .val (.int r9), .val (.int r10), .val (.ref b158), .val (.ref b172), .val (.int (0 : Int32))]) rfl k) ?_
      show own_goW _ _ _ _ _ _ _ _ _ _ (T193.setTop (mkF m 151 #[.val (.int p0), .val (.int p1), .val (.int p2), .val (.int p3), .val (.int p4), .val (.long p5), .second, .val (.int z7), .val (.int z8), .val (.int r9), .val (.int r10), .val (.ref b158), .val (.ref b172), .val (.int (0 : Int32))] []))
      refine own_stW (fun _ k => XS.aload X193.here hx rfl (hb hby at_151) rfl rfl k) ?_
      show own_goW _ _ _ _ _ _ _ _ _ _ (T193.setTop (mkF m 153 #[.val (.int p0), .val (.int p1), .val (.int p2), .val (.int p3), .val (.int p4), .val (.long p5), .second, .val (.int z7), .val (.int z8), .val (.int r9), .val (.int r10), .val (.ref b158), .val (.ref b172), .val (.int (0 : Int32))] [(.ref b158)]))
      refine own_stW (fun _ k => XS.aload X193.here hx rfl (hb hby at_153) rfl rfl k) ?_
      show own_goW _ _ _ _ _ _ _ _ _ _ (T193.setTop (mkF m 155 #[.val (.int p0), .val (.int p1), .val (.int p2), .val (.int p3), .val (.int p4), .val (.long p5), .second, .val (.int z7), .val (.int z8), .val (.int r9), .val (.int r10), .val (.ref b158), .val (.ref b172), .val (.int (0 : Int32))] [(.ref b172), (.ref b158)]))
      have f201 := ((((F164_2.ext E172).keep Kq178 nin0).keep Kq184 nin0).keep Kq193 (ninS ne_b158_b172 nin0))
      have z7q := hc199
      have frq := f201
      rw [z7q] at frq
      have f202 := ((((F164_0.ext E172).keep Kq178 nin0).keep Kq184 nin0).keep Kq193 (ninS ne_b158_b172 nin0))
      have f203 := ((((F164_1.ext E172).keep Kq178 nin0).keep Kq184 nin0).keep Kq193 (ninS ne_b158_b172 nin0))
      have f204 := (f191.keep Kq193)
      have f205 := ((f186.keep Kq184).keep Kq193)
      have f206 := ((((((Fc159.keep Kq160 nin0).keep Kq164 (ninS (Ne.symm ne_b158_r159) nin0)).ext E172).keep Kq178 nin0).keep Kq184 nin0).keep Kq193 (ninS ne_r159_b172 nin0))
      have f207 := ((((((Fv159.keep Kq160 nin0).keep Kq164 (ninS (Ne.symm ne_b158_r159) nin0)).ext E172).keep Kq178 nin0).keep Kq184 nin0).keep Kq193 (ninS ne_r159_b172 nin0))
      have f208 := ((f187.keep Kq184 nin0).keep Kq193 (ninS ne_t159_b172 nin0))
      have f209 := ((f188.keep Kq184).keep Kq193)
      have f210 := (((((Fc160.keep Kq164 (ninS (Ne.symm ne_b158_r160) nin0)).ext E172).keep Kq178 nin0).keep Kq184 nin0).keep Kq193 (ninS ne_r160_b172 nin0))
      have f211 := (((((Fv160.keep Kq164 (ninS (Ne.symm ne_b158_r160) nin0)).ext E172).keep Kq178 nin0).keep Kq184 nin0).keep Kq193 (ninS ne_r160_b172 nin0))
      have f212 := ((f189.keep Kq184 nin0).keep Kq193 (ninS ne_t160_b172 nin0))
      have f213 := ((A178.keep Kq184).keep Kq193)
      have f214 := ((Fc178.keep Kq184 nin0).keep Kq193 (ninS (Ne.symm ne_b172_r178) nin0))
      have f215 := ((Fv178.keep Kq184 nin0).keep Kq193 (ninS (Ne.symm ne_b172_r178) nin0))
      have f216 := (f192.keep Kq193 (ninS (Ne.symm ne_b172_t178) nin0))
      have f217 := (A184.keep Kq193)
      have f218 := (Fc184.keep Kq193 (ninS (Ne.symm ne_b172_r184) nin0))
      have f219 := (Fv184.keep Kq193 (ninS (Ne.symm ne_b172_r184) nin0))
      have f220 := (Vt184.keep Kq193 (ninS (Ne.symm ne_b172_t184) nin0))
      have f221 := ((f185.keep Kq184).keep Kq193)
      obtain ⟨v200, T200, L200, X200, hQ200, st200⟩ := own_callV X193 hx hZ184 (argsL := [(.ref b172)]) (rest := []) (rm_go0 l Z a0 hw b158 b172 r159 r160 r178 r184 t159 kt159 (own_cs p0) t160 kt160 (own_cs p1) t178 kt178 (own_cs r9) t184 kt184 (own_cs r10) z_COMPACT_STRINGS T193.heap n0 O193 hS f202 f203 frq f204 F193_0 F193_1 f205 f206 f207 f208 (own_csb _) (own_csl _) f209 f210 f211 f212 (own_csb _) (own_csl _) f213 f214 f215 f216 (own_csb _) (own_csl _) f217 f218 f219 f220 (own_csb _) (own_csl _) ) hown184 (hw _ (List.mem_of_getElem? (i := 90) rfl)) (hw _ (List.mem_of_getElem? (i := 91) rfl)) (notFace_of_selects (args := #[]) (mvT hZ184 (hw _ (List.mem_of_getElem? (i := 93) rfl)))) (hw _ (List.mem_of_getElem? (i := 93) rfl)) (hw _ (List.mem_of_getElem? (i := 92) rfl)) (hw _ (List.mem_of_getElem? (i := 2) rfl)) (hw _ (List.mem_of_getElem? (i := 94) rfl)) (by decide) rfl f221 (g := (mkF m 155 #[.val (.int p0), .val (.int p1), .val (.int p2), .val (.int p3), .val (.int p4), .val (.long p5), .second, .val (.int z7), .val (.int z8), .val (.int r9), .val (.int r10), .val (.ref b158), .val (.ref b172), .val (.int (0 : Int32))] [(.ref b172), (.ref b158)])) rfl (by rw [hml]; rfl) (lenOf own_pd__28Lcom_2fexample_2fusher_2fusher_2fOutboxRuns_24Run_3b_29Z rfl) rfl (W := 0) (by show 2 * 0 + _ ≤ _; exact Nat.le_of_eq rfl) (hb hby at_155) (by decide) (by decide) (by decide) (by decide)
      obtain ⟨rfl, Nq200, eq200⟩ := hQ200
      have N200 := Fr.app N193 Nq200
      refine own_stW st200 ?_
      show own_goW _ _ _ _ _ _ _ _ _ _ (T200.setTop (mkF m 158 #[.val (.int p0), .val (.int p1), .val (.int p2), .val (.int p3), .val (.int p4), .val (.long p5), .second, .val (.int z7), .val (.int z8), .val (.int r9), .val (.int r10), .val (.ref b158), .val (.ref b172), .val (.int (0 : Int32))] [(.int (0 : Int32))]))
      refine own_stW (fun _ k => XS.iload X200.here hx rfl (hb hby at_158) rfl k) ?_
      show own_goW _ _ _ _ _ _ _ _ _ _ (T200.setTop (mkF m 160 #[.val (.int p0), .val (.int p1), .val (.int p2), .val (.int p3), .val (.int p4), .val (.long p5), .second, .val (.int z7), .val (.int z8), .val (.int r9), .val (.int r10), .val (.ref b158), .val (.ref b172), .val (.int (0 : Int32))] [(.int (0 : Int32)), (.int (0 : Int32))]))
      refine own_stW (fun _ k => XS.icmpNo X200.here hx rfl (hb hby at_160) rfl (by decide) k) ?_
      show own_goW _ _ _ _ _ _ _ _ _ _ (T200.setTop (mkF m 163 #[.val (.int p0), .val (.int p1), .val (.int p2), .val (.int p3), .val (.int p4), .val (.long p5), .second, .val (.int z7), .val (.int z8), .val (.int r9), .val (.int r10), .val (.ref b158), .val (.ref b172), .val (.int (0 : Int32))] []))
      refine own_stW (fun _ k => XS.iconst X200.here hx rfl (hb hby at_163) k) ?_
      show own_goW _ _ _ _ _ _ _ _ _ _ (T200.setTop (mkF m 164 #[.val (.int p0), .val (.int p1), .val (.int p2), .val (.int p3), .val (.int p4), .val (.long p5), .second, .val (.int z7), .val (.int z8), .val (.int r9), .val (.int r10), .val (.ref b158), .val (.ref b172), .val (.int (0 : Int32))] [(.int (1 : Int32))]))
      refine own_stW (fun _ k => XS.goto X200.here hx rfl (pc0 := 164) (pc' := 168) rfl (hb hby at_164) (by decide) (by decide) k) ?_
      show own_goW _ _ _ _ _ _ _ _ _ _ (T200.setTop (mkF m 168 #[.val (.int p0), .val (.int p1), .val (.int p2), .val (.int p3), .val (.int p4), .val (.long p5), .second, .val (.int z7), .val (.int z8), .val (.int r9), .val (.int r10), .val (.ref b158), .val (.ref b172), .val (.int (0 : Int32))] [(.int (1 : Int32))]))
      exact own_retNW X200 hx hlk hS184 hkk193 hZ184 hEL Ck193 eq200 (t := .boolean) hret (by simp) rfl (hb hby at_168) (by decide) (by decide) (⟨rfl, N200⟩)
    · skip
      refine own_stW (fun _ k => XS.ifNo X193.here hx rfl (hb hby at_123) rfl (XT.i0_eq_f hc199) k) ?_
      show own_goW _ _ _ _ _ _ _ _ _ _ (T193.setTop (mkF m 126 #[.val (.int p0), .val (.int p1), .val (.int p2), .val (.int p3), .val (.int p4), .val (.long p5), .second, .val (.int z7), .val (.int z8), .val (.int r9), .val (.int r10), .val (.ref b158), .val (.ref b172), .unset] []))
      refine own_stW (fun _ k => XS.iloadN X193.here hx rfl (hb hby at_126) rfl k) ?_
      show own_goW _ _ _ _ _ _ _ _ _ _ (T193.setTop (mkF m 127 #[.val (.int p0), .val (.int p1), .val (.int p2), .val (.int p3), .val (.int p4), .val (.long p5), .second, .val (.int z7), .val (.int z8), .val (.int r9), .val (.int r10), .val (.ref b158), .val (.ref b172), .unset] [(.int p0)]))
      refine own_stW (fun _ k => XS.iload X193.here hx rfl (hb hby at_127) rfl k) ?_
      show own_goW _ _ _ _ _ _ _ _ _ _ (T193.setTop (mkF m 129 #[.val (.int p0), .val (.int p1), .val (.int p2), .val (.int p3), .val (.int p4), .val (.long p5), .second, .val (.int z7), .val (.int z8), .val (.int r9), .val (.int r10), .val (.ref b158), .val (.ref b172), .unset] [(.int r9), (.int p0)]))
      obtain ⟨v222, T222, L222, X222, hQ222, st222⟩ := own_callS X193 hx hZ184 (argsL := [(.int p0), (.int r9)]) (rest := []) (rm_same l Z a0 hw p0 r9 T193.heap n0 O193) hown184 (hw _ (List.mem_of_getElem? (i := 95) rfl)) (hw _ (List.mem_of_getElem? (i := 96) rfl)) (hw _ (List.mem_of_getElem? (i := 5) rfl)) (hw _ (List.mem_of_getElem? (i := 97) rfl)) (by decide) rfl (g := (mkF m 129 #[.val (.int p0), .val (.int p1), .val (.int p2), .val (.int p3), .val (.int p4), .val (.long p5), .second, .val (.int z7), .val (.int z8), .val (.int r9), .val (.int r10), .val (.ref b158), .val (.ref b172), .unset] [(.int r9), (.int p0)])) rfl (by rw [hml]; rfl) (lenOf own_pd__28II_29Z rfl) rfl (W := 0) (by show 2 * 0 + _ ≤ _; exact Nat.le_of_eq rfl) (hb hby at_129) (by decide) (by decide) (by decide) (by decide)
      obtain ⟨rfl, Nq222, eq222⟩ := hQ222
      have N222 := Fr.app N193 Nq222
      refine own_stW st222 ?_
      show own_goW _ _ _ _ _ _ _ _ _ _ (T222.setTop (mkF m 132 #[.val (.int p0), .val (.int p1), .val (.int p2), .val (.int p3), .val (.int p4), .val (.long p5), .second, .val (.int z7), .val (.int z8), .val (.int r9), .val (.int r10), .val (.ref b158), .val (.ref b172), .unset] [(.int (own_same p0 r9))]))
      by_cases hc223 : (own_same p0 r9) = (0 : Int32)
      · skip
        refine own_stW (fun _ k => XS.ifYes X222.here hx rfl (pc0 := 132) (pc' := 148) rfl (hb hby at_132) rfl (XT.i0_eq_t hc223) (by decide) (by decide) k) ?_
        show own_goW _ _ _ _ _ _ _ _ _ _ (T222.setTop (mkF m 148 #[.val (.int p0), .val (.int p1), .val (.int p2), .val (.int p3), .val (.int p4), .val (.long p5), .second, .val (.int z7), .val (.int z8), .val (.int r9), .val (.int r10), .val (.ref b158), .val (.ref b172), .unset] []))
        refine own_stW (fun _ k => XS.iconst X222.here hx rfl (hb hby at_148) k) ?_
        show own_goW _ _ _ _ _ _ _ _ _ _ (T222.setTop (mkF m 149 #[.val (.int p0), .val (.int p1), .val (.int p2), .val (.int p3), .val (.int p4), .val (.long p5), .second, .val (.int z7), .val (.int z8), .val (.int r9), .val (.int r10), .val (.ref b158), .val (.ref b172), .unset] [(.int (0 : Int32))]))
        refine own_stW (fun _ k => XS.istore X222.here hx rfl (hb hby at_149) rfl (l' := #[.val (.int p0), .val (.int p1), .val (.int p2), .val (.int p3), .val (.int p4), .val (.long p5), .second, .val (.int z7), .val (.int z8), .val (.int r9), .val (.int r10), .val (.ref b158), .val (.ref b172), .val (.int (0 : Int32))]) rfl k) ?_
        show own_goW _ _ _ _ _ _ _ _ _ _ (T222.setTop (mkF m 151 #[.val (.int p0), .val (.int p1), .val (.int p2), .val (.int p3), .val (.int p4), .val (.long p5), .second, .val (.int z7), .val (.int z8), .val (.int r9), .val (.int r10), .val (.ref b158), .val (.ref b172), .val (.int (0 : Int32))] []))
        refine own_stW (fun _ k => XS.aload X222.here hx rfl (hb hby at_151) rfl rfl k) ?_
        show own_goW _ _ _ _ _ _ _ _ _ _ (T222.setTop (mkF m 153 #[.val (.int p0), .val (.int p1), .val (.int p2), .val (.int p3), .val (.int p4), .val (.long p5), .second, .val (.int z7), .val (.int z8), .val (.int r9), .val (.int r10), .val (.ref b158), .val (.ref b172), .val (.int (0 : Int32))] [(.ref b158)]))
        refine own_stW (fun _ k => XS.aload X222.here hx rfl (hb hby at_153) rfl rfl k) ?_
        show own_goW _ _ _ _ _ _ _ _ _ _ (T222.setTop (mkF m 155 #[.val (.int p0), .val (.int p1), .val (.int p2), .val (.int p3), .val (.int p4), .val (.long p5), .second, .val (.int z7), .val (.int z8), .val (.int r9), .val (.int r10), .val (.ref b158), .val (.ref b172), .val (.int (0 : Int32))] [(.ref b172), (.ref b158)]))
        have f225 := ((((F164_2.ext E172).keep Kq178 nin0).keep Kq184 nin0).keep Kq193 (ninS ne_b158_b172 nin0))
        have z7q : z7 = 1 := hz7.resolve_left hc199
        have frq := f225
        rw [z7q] at frq
        have f226 := ((((F164_0.ext E172).keep Kq178 nin0).keep Kq184 nin0).keep Kq193 (ninS ne_b158_b172 nin0))
        have f227 := ((((F164_1.ext E172).keep Kq178 nin0).keep Kq184 nin0).keep Kq193 (ninS ne_b158_b172 nin0))
        have f228 := (f191.keep Kq193)
        have f229 := ((f186.keep Kq184).keep Kq193)
        have f230 := ((((((Fc159.keep Kq160 nin0).keep Kq164 (ninS (Ne.symm ne_b158_r159) nin0)).ext E172).keep Kq178 nin0).keep Kq184 nin0).keep Kq193 (ninS ne_r159_b172 nin0))
        have f231 := ((((((Fv159.keep Kq160 nin0).keep Kq164 (ninS (Ne.symm ne_b158_r159) nin0)).ext E172).keep Kq178 nin0).keep Kq184 nin0).keep Kq193 (ninS ne_r159_b172 nin0))
        have f232 := ((f187.keep Kq184 nin0).keep Kq193 (ninS ne_t159_b172 nin0))
        have f233 := ((f188.keep Kq184).keep Kq193)
        have f234 := (((((Fc160.keep Kq164 (ninS (Ne.symm ne_b158_r160) nin0)).ext E172).keep Kq178 nin0).keep Kq184 nin0).keep Kq193 (ninS ne_r160_b172 nin0))
        have f235 := (((((Fv160.keep Kq164 (ninS (Ne.symm ne_b158_r160) nin0)).ext E172).keep Kq178 nin0).keep Kq184 nin0).keep Kq193 (ninS ne_r160_b172 nin0))
        have f236 := ((f189.keep Kq184 nin0).keep Kq193 (ninS ne_t160_b172 nin0))
        have f237 := ((A178.keep Kq184).keep Kq193)
        have f238 := ((Fc178.keep Kq184 nin0).keep Kq193 (ninS (Ne.symm ne_b172_r178) nin0))
        have f239 := ((Fv178.keep Kq184 nin0).keep Kq193 (ninS (Ne.symm ne_b172_r178) nin0))
        have f240 := (f192.keep Kq193 (ninS (Ne.symm ne_b172_t178) nin0))
        have f241 := (A184.keep Kq193)
        have f242 := (Fc184.keep Kq193 (ninS (Ne.symm ne_b172_r184) nin0))
        have f243 := (Fv184.keep Kq193 (ninS (Ne.symm ne_b172_r184) nin0))
        have f244 := (Vt184.keep Kq193 (ninS (Ne.symm ne_b172_t184) nin0))
        have f245 := ((f185.keep Kq184).keep Kq193)
        obtain ⟨v224, T224, L224, X224, hQ224, st224⟩ := own_callV X222 hx hZ184 (argsL := [(.ref b172)]) (rest := []) (rm_go1 l Z a0 hw b158 b172 r159 r160 r178 r184 t159 kt159 (own_cs p0) t160 kt160 (own_cs p1) t178 kt178 (own_cs r9) t184 kt184 (own_cs r10) z_COMPACT_STRINGS T193.heap n0 O193 hS f226 f227 frq f228 F193_0 F193_1 f229 f230 f231 f232 (own_csb _) (own_csl _) f233 f234 f235 f236 (own_csb _) (own_csl _) f237 f238 f239 f240 (own_csb _) (own_csl _) f241 f242 f243 f244 (own_csb _) (own_csl _) (own_same0 hc223)) hown184 (hw _ (List.mem_of_getElem? (i := 90) rfl)) (hw _ (List.mem_of_getElem? (i := 91) rfl)) (notFace_of_selects (args := #[]) (mvT hZ184 (hw _ (List.mem_of_getElem? (i := 93) rfl)))) (hw _ (List.mem_of_getElem? (i := 93) rfl)) (hw _ (List.mem_of_getElem? (i := 92) rfl)) (hw _ (List.mem_of_getElem? (i := 2) rfl)) (hw _ (List.mem_of_getElem? (i := 94) rfl)) (by decide) eq222 f245 (g := (mkF m 155 #[.val (.int p0), .val (.int p1), .val (.int p2), .val (.int p3), .val (.int p4), .val (.long p5), .second, .val (.int z7), .val (.int z8), .val (.int r9), .val (.int r10), .val (.ref b158), .val (.ref b172), .val (.int (0 : Int32))] [(.ref b172), (.ref b158)])) rfl (by rw [hml]; rfl) (lenOf own_pd__28Lcom_2fexample_2fusher_2fusher_2fOutboxRuns_24Run_3b_29Z rfl) rfl (W := 0) (by show 2 * 0 + _ ≤ _; exact Nat.le_of_eq rfl) (hb hby at_155) (by decide) (by decide) (by decide) (by decide)
        obtain ⟨rfl, Nq224, eq224⟩ := hQ224
        have N224 := Fr.app N222 Nq224
        refine own_stW st224 ?_
        show own_goW _ _ _ _ _ _ _ _ _ _ (T224.setTop (mkF m 158 #[.val (.int p0), .val (.int p1), .val (.int p2), .val (.int p3), .val (.int p4), .val (.long p5), .second, .val (.int z7), .val (.int z8), .val (.int r9), .val (.int r10), .val (.ref b158), .val (.ref b172), .val (.int (0 : Int32))] [(.int (0 : Int32))]))
        refine own_stW (fun _ k => XS.iload X224.here hx rfl (hb hby at_158) rfl k) ?_
        show own_goW _ _ _ _ _ _ _ _ _ _ (T224.setTop (mkF m 160 #[.val (.int p0), .val (.int p1), .val (.int p2), .val (.int p3), .val (.int p4), .val (.long p5), .second, .val (.int z7), .val (.int z8), .val (.int r9), .val (.int r10), .val (.ref b158), .val (.ref b172), .val (.int (0 : Int32))] [(.int (0 : Int32)), (.int (0 : Int32))]))
        refine own_stW (fun _ k => XS.icmpNo X224.here hx rfl (hb hby at_160) rfl (by decide) k) ?_
        show own_goW _ _ _ _ _ _ _ _ _ _ (T224.setTop (mkF m 163 #[.val (.int p0), .val (.int p1), .val (.int p2), .val (.int p3), .val (.int p4), .val (.long p5), .second, .val (.int z7), .val (.int z8), .val (.int r9), .val (.int r10), .val (.ref b158), .val (.ref b172), .val (.int (0 : Int32))] []))
        refine own_stW (fun _ k => XS.iconst X224.here hx rfl (hb hby at_163) k) ?_
        show own_goW _ _ _ _ _ _ _ _ _ _ (T224.setTop (mkF m 164 #[.val (.int p0), .val (.int p1), .val (.int p2), .val (.int p3), .val (.int p4), .val (.long p5), .second, .val (.int z7), .val (.int z8), .val (.int r9), .val (.int r10), .val (.ref b158), .val (.ref b172), .val (.int (0 : Int32))] [(.int (1 : Int32))]))
        refine own_stW (fun _ k => XS.goto X224.here hx rfl (pc0 := 164) (pc' := 168) rfl (hb hby at_164) (by decide) (by decide) k) ?_
        show own_goW _ _ _ _ _ _ _ _ _ _ (T224.setTop (mkF m 168 #[.val (.int p0), .val (.int p1), .val (.int p2), .val (.int p3), .val (.int p4), .val (.long p5), .second, .val (.int z7), .val (.int z8), .val (.int r9), .val (.int r10), .val (.ref b158), .val (.ref b172), .val (.int (0 : Int32))] [(.int (1 : Int32))]))
        exact own_retNW X224 hx hlk hS184 hkk193 hZ184 hEL Ck193 eq224 (t := .boolean) hret (by simp) rfl (hb hby at_168) (by decide) (by decide) (⟨rfl, N224⟩)
      · skip
        refine own_stW (fun _ k => XS.ifNo X222.here hx rfl (hb hby at_132) rfl (XT.i0_eq_f hc223) k) ?_
        show own_goW _ _ _ _ _ _ _ _ _ _ (T222.setTop (mkF m 135 #[.val (.int p0), .val (.int p1), .val (.int p2), .val (.int p3), .val (.int p4), .val (.long p5), .second, .val (.int z7), .val (.int z8), .val (.int r9), .val (.int r10), .val (.ref b158), .val (.ref b172), .unset] []))
        refine own_stW (fun _ k => XS.iloadN X222.here hx rfl (hb hby at_135) rfl k) ?_
        show own_goW _ _ _ _ _ _ _ _ _ _ (T222.setTop (mkF m 136 #[.val (.int p0), .val (.int p1), .val (.int p2), .val (.int p3), .val (.int p4), .val (.long p5), .second, .val (.int z7), .val (.int z8), .val (.int r9), .val (.int r10), .val (.ref b158), .val (.ref b172), .unset] [(.int p1)]))
        refine own_stW (fun _ k => XS.iload X222.here hx rfl (hb hby at_136) rfl k) ?_
        show own_goW _ _ _ _ _ _ _ _ _ _ (T222.setTop (mkF m 138 #[.val (.int p0), .val (.int p1), .val (.int p2), .val (.int p3), .val (.int p4), .val (.long p5), .second, .val (.int z7), .val (.int z8), .val (.int r9), .val (.int r10), .val (.ref b158), .val (.ref b172), .unset] [(.int r10), (.int p1)]))
        obtain ⟨v246, T246, L246, X246, hQ246, st246⟩ := own_callS X222 hx hZ184 (argsL := [(.int p1), (.int r10)]) (rest := []) (rm_same l Z a0 hw p1 r10 T193.heap n0 O193) hown184 (hw _ (List.mem_of_getElem? (i := 95) rfl)) (hw _ (List.mem_of_getElem? (i := 96) rfl)) (hw _ (List.mem_of_getElem? (i := 5) rfl)) (hw _ (List.mem_of_getElem? (i := 97) rfl)) (by decide) eq222 (g := (mkF m 138 #[.val (.int p0), .val (.int p1), .val (.int p2), .val (.int p3), .val (.int p4), .val (.long p5), .second, .val (.int z7), .val (.int z8), .val (.int r9), .val (.int r10), .val (.ref b158), .val (.ref b172), .unset] [(.int r10), (.int p1)])) rfl (by rw [hml]; rfl) (lenOf own_pd__28II_29Z rfl) rfl (W := 0) (by show 2 * 0 + _ ≤ _; exact Nat.le_of_eq rfl) (hb hby at_138) (by decide) (by decide) (by decide) (by decide)
        obtain ⟨rfl, Nq246, eq246⟩ := hQ246
        have N246 := Fr.app N222 Nq246
        refine own_stW st246 ?_
        show own_goW _ _ _ _ _ _ _ _ _ _ (T246.setTop (mkF m 141 #[.val (.int p0), .val (.int p1), .val (.int p2), .val (.int p3), .val (.int p4), .val (.long p5), .second, .val (.int z7), .val (.int z8), .val (.int r9), .val (.int r10), .val (.ref b158), .val (.ref b172), .unset] [(.int (own_same p1 r10))]))
        by_cases hc247 : (own_same p1 r10) = (0 : Int32)
        · skip
          refine own_stW (fun _ k => XS.ifYes X246.here hx rfl (pc0 := 141) (pc' := 148) rfl (hb hby at_141) rfl (XT.i0_eq_t hc247) (by decide) (by decide) k) ?_
          show own_goW _ _ _ _ _ _ _ _ _ _ (T246.setTop (mkF m 148 #[.val (.int p0), .val (.int p1), .val (.int p2), .val (.int p3), .val (.int p4), .val (.long p5), .second, .val (.int z7), .val (.int z8), .val (.int r9), .val (.int r10), .val (.ref b158), .val (.ref b172), .unset] []))
          refine own_stW (fun _ k => XS.iconst X246.here hx rfl (hb hby at_148) k) ?_
          show own_goW _ _ _ _ _ _ _ _ _ _ (T246.setTop (mkF m 149 #[.val (.int p0), .val (.int p1), .val (.int p2), .val (.int p3), .val (.int p4), .val (.long p5), .second, .val (.int z7), .val (.int z8), .val (.int r9), .val (.int r10), .val (.ref b158), .val (.ref b172), .unset] [(.int (0 : Int32))]))
          refine own_stW (fun _ k => XS.istore X246.here hx rfl (hb hby at_149) rfl (l' := #[.val (.int p0), .val (.int p1), .val (.int p2), .val (.int p3), .val (.int p4), .val (.long p5), .second, .val (.int z7), .val (.int z8), .val (.int r9), .val (.int r10), .val (.ref b158), .val (.ref b172), .val (.int (0 : Int32))]) rfl k) ?_
          show own_goW _ _ _ _ _ _ _ _ _ _ (T246.setTop (mkF m 151 #[.val (.int p0), .val (.int p1), .val (.int p2), .val (.int p3), .val (.int p4), .val (.long p5), .second, .val (.int z7), .val (.int z8), .val (.int r9), .val (.int r10), .val (.ref b158), .val (.ref b172), .val (.int (0 : Int32))] []))
          refine own_stW (fun _ k => XS.aload X246.here hx rfl (hb hby at_151) rfl rfl k) ?_
          show own_goW _ _ _ _ _ _ _ _ _ _ (T246.setTop (mkF m 153 #[.val (.int p0), .val (.int p1), .val (.int p2), .val (.int p3), .val (.int p4), .val (.long p5), .second, .val (.int z7), .val (.int z8), .val (.int r9), .val (.int r10), .val (.ref b158), .val (.ref b172), .val (.int (0 : Int32))] [(.ref b158)]))
          refine own_stW (fun _ k => XS.aload X246.here hx rfl (hb hby at_153) rfl rfl k) ?_
          show own_goW _ _ _ _ _ _ _ _ _ _ (T246.setTop (mkF m 155 #[.val (.int p0), .val (.int p1), .val (.int p2), .val (.int p3), .val (.int p4), .val (.long p5), .second, .val (.int z7), .val (.int z8), .val (.int r9), .val (.int r10), .val (.ref b158), .val (.ref b172), .val (.int (0 : Int32))] [(.ref b172), (.ref b158)]))
          have f249 := ((((F164_2.ext E172).keep Kq178 nin0).keep Kq184 nin0).keep Kq193 (ninS ne_b158_b172 nin0))
          have z7q : z7 = 1 := hz7.resolve_left hc199
          have frq := f249
          rw [z7q] at frq
          have f250 := ((((F164_0.ext E172).keep Kq178 nin0).keep Kq184 nin0).keep Kq193 (ninS ne_b158_b172 nin0))
          have f251 := ((((F164_1.ext E172).keep Kq178 nin0).keep Kq184 nin0).keep Kq193 (ninS ne_b158_b172 nin0))
          have f252 := (f191.keep Kq193)
          have f253 := ((f186.keep Kq184).keep Kq193)
          have f254 := ((((((Fc159.keep Kq160 nin0).keep Kq164 (ninS (Ne.symm ne_b158_r159) nin0)).ext E172).keep Kq178 nin0).keep Kq184 nin0).keep Kq193 (ninS ne_r159_b172 nin0))
          have f255 := ((((((Fv159.keep Kq160 nin0).keep Kq164 (ninS (Ne.symm ne_b158_r159) nin0)).ext E172).keep Kq178 nin0).keep Kq184 nin0).keep Kq193 (ninS ne_r159_b172 nin0))
          have f256 := ((f187.keep Kq184 nin0).keep Kq193 (ninS ne_t159_b172 nin0))
          have f257 := ((f188.keep Kq184).keep Kq193)
          have f258 := (((((Fc160.keep Kq164 (ninS (Ne.symm ne_b158_r160) nin0)).ext E172).keep Kq178 nin0).keep Kq184 nin0).keep Kq193 (ninS ne_r160_b172 nin0))
          have f259 := (((((Fv160.keep Kq164 (ninS (Ne.symm ne_b158_r160) nin0)).ext E172).keep Kq178 nin0).keep Kq184 nin0).keep Kq193 (ninS ne_r160_b172 nin0))
          have f260 := ((f189.keep Kq184 nin0).keep Kq193 (ninS ne_t160_b172 nin0))
          have f261 := ((A178.keep Kq184).keep Kq193)
          have f262 := ((Fc178.keep Kq184 nin0).keep Kq193 (ninS (Ne.symm ne_b172_r178) nin0))
          have f263 := ((Fv178.keep Kq184 nin0).keep Kq193 (ninS (Ne.symm ne_b172_r178) nin0))
          have f264 := (f192.keep Kq193 (ninS (Ne.symm ne_b172_t178) nin0))
          have f265 := (A184.keep Kq193)
          have f266 := (Fc184.keep Kq193 (ninS (Ne.symm ne_b172_r184) nin0))
          have f267 := (Fv184.keep Kq193 (ninS (Ne.symm ne_b172_r184) nin0))
          have f268 := (Vt184.keep Kq193 (ninS (Ne.symm ne_b172_t184) nin0))
          have f269 := ((f185.keep Kq184).keep Kq193)
          obtain ⟨v248, T248, L248, X248, hQ248, st248⟩ := own_callV X246 hx hZ184 (argsL := [(.ref b172)]) (rest := []) (rm_go2 l Z a0 hw b158 b172 r159 r160 r178 r184 t159 kt159 (own_cs p0) t160 kt160 (own_cs p1) t178 kt178 (own_cs r9) t184 kt184 (own_cs r10) z_COMPACT_STRINGS T193.heap n0 O193 hS f250 f251 frq f252 F193_0 F193_1 f253 f254 f255 f256 (own_csb _) (own_csl _) f257 f258 f259 f260 (own_csb _) (own_csl _) f261 f262 f263 f264 (own_csb _) (own_csl _) f265 f266 f267 f268 (own_csb _) (own_csl _) (own_same1 hc223) (own_same0 hc247)) hown184 (hw _ (List.mem_of_getElem? (i := 90) rfl)) (hw _ (List.mem_of_getElem? (i := 91) rfl)) (notFace_of_selects (args := #[]) (mvT hZ184 (hw _ (List.mem_of_getElem? (i := 93) rfl)))) (hw _ (List.mem_of_getElem? (i := 93) rfl)) (hw _ (List.mem_of_getElem? (i := 92) rfl)) (hw _ (List.mem_of_getElem? (i := 2) rfl)) (hw _ (List.mem_of_getElem? (i := 94) rfl)) (by decide) eq246 f269 (g := (mkF m 155 #[.val (.int p0), .val (.int p1), .val (.int p2), .val (.int p3), .val (.int p4), .val (.long p5), .second, .val (.int z7), .val (.int z8), .val (.int r9), .val (.int r10), .val (.ref b158), .val (.ref b172), .val (.int (0 : Int32))] [(.ref b172), (.ref b158)])) rfl (by rw [hml]; rfl) (lenOf own_pd__28Lcom_2fexample_2fusher_2fusher_2fOutboxRuns_24Run_3b_29Z rfl) rfl (W := 0) (by show 2 * 0 + _ ≤ _; exact Nat.le_of_eq rfl) (hb hby at_155) (by decide) (by decide) (by decide) (by decide)
          obtain ⟨rfl, Nq248, eq248⟩ := hQ248
          have N248 := Fr.app N246 Nq248
          refine own_stW st248 ?_
          show own_goW _ _ _ _ _ _ _ _ _ _ (T248.setTop (mkF m 158 #[.val (.int p0), .val (.int p1), .val (.int p2), .val (.int p3), .val (.int p4), .val (.long p5), .second, .val (.int z7), .val (.int z8), .val (.int r9), .val (.int r10), .val (.ref b158), .val (.ref b172), .val (.int (0 : Int32))] [(.int (0 : Int32))]))
          refine own_stW (fun _ k => XS.iload X248.here hx rfl (hb hby at_158) rfl k) ?_
          show own_goW _ _ _ _ _ _ _ _ _ _ (T248.setTop (mkF m 160 #[.val (.int p0), .val (.int p1), .val (.int p2), .val (.int p3), .val (.int p4), .val (.long p5), .second, .val (.int z7), .val (.int z8), .val (.int r9), .val (.int r10), .val (.ref b158), .val (.ref b172), .val (.int (0 : Int32))] [(.int (0 : Int32)), (.int (0 : Int32))]))
          refine own_stW (fun _ k => XS.icmpNo X248.here hx rfl (hb hby at_160) rfl (by decide) k) ?_
          show own_goW _ _ _ _ _ _ _ _ _ _ (T248.setTop (mkF m 163 #[.val (.int p0), .val (.int p1), .val (.int p2), .val (.int p3), .val (.int p4), .val (.long p5), .second, .val (.int z7), .val (.int z8), .val (.int r9), .val (.int r10), .val (.ref b158), .val (.ref b172), .val (.int (0 : Int32))] []))
          refine own_stW (fun _ k => XS.iconst X248.here hx rfl (hb hby at_163) k) ?_
          show own_goW _ _ _ _ _ _ _ _ _ _ (T248.setTop (mkF m 164 #[.val (.int p0), .val (.int p1), .val (.int p2), .val (.int p3), .val (.int p4), .val (.long p5), .second, .val (.int z7), .val (.int z8), .val (.int r9), .val (.int r10), .val (.ref b158), .val (.ref b172), .val (.int (0 : Int32))] [(.int (1 : Int32))]))
          refine own_stW (fun _ k => XS.goto X248.here hx rfl (pc0 := 164) (pc' := 168) rfl (hb hby at_164) (by decide) (by decide) k) ?_
          show own_goW _ _ _ _ _ _ _ _ _ _ (T248.setTop (mkF m 168 #[.val (.int p0), .val (.int p1), .val (.int p2), .val (.int p3), .val (.int p4), .val (.long p5), .second, .val (.int z7), .val (.int z8), .val (.int r9), .val (.int r10), .val (.ref b158), .val (.ref b172), .val (.int (0 : Int32))] [(.int (1 : Int32))]))
          exact own_retNW X248 hx hlk hS184 hkk193 hZ184 hEL Ck193 eq248 (t := .boolean) hret (by simp) rfl (hb hby at_168) (by decide) (by decide) (⟨rfl, N248⟩)
        · skip
          refine own_stW (fun _ k => XS.ifNo X246.here hx rfl (hb hby at_141) rfl (XT.i0_eq_f hc247) k) ?_
          show own_goW _ _ _ _ _ _ _ _ _ _ (T246.setTop (mkF m 144 #[.val (.int p0), .val (.int p1), .val (.int p2), .val (.int p3), .val (.int p4), .val (.long p5), .second, .val (.int z7), .val (.int z8), .val (.int r9), .val (.int r10), .val (.ref b158), .val (.ref b172), .unset] []))
          refine own_stW (fun _ k => XS.iconst X246.here hx rfl (hb hby at_144) k) ?_
          show own_goW _ _ _ _ _ _ _ _ _ _ (T246.setTop (mkF m 145 #[.val (.int p0), .val (.int p1), .val (.int p2), .val (.int p3), .val (.int p4), .val (.long p5), .second, .val (.int z7), .val (.int z8), .val (.int r9), .val (.int r10), .val (.ref b158), .val (.ref b172), .unset] [(.int (1 : Int32))]))
          refine own_stW (fun _ k => XS.goto X246.here hx rfl (pc0 := 145) (pc' := 149) rfl (hb hby at_145) (by decide) (by decide) k) ?_
          show own_goW _ _ _ _ _ _ _ _ _ _ (T246.setTop (mkF m 149 #[.val (.int p0), .val (.int p1), .val (.int p2), .val (.int p3), .val (.int p4), .val (.long p5), .second, .val (.int z7), .val (.int z8), .val (.int r9), .val (.int r10), .val (.ref b158), .val (.ref b172), .unset] [(.int (1 : Int32))]))
          refine own_stW (fun _ k => XS.istore X246.here hx rfl (hb hby at_149) rfl (l' := #[.val (.int p0), .val (.int p1), .val (.int p2), .val (.int p3), .val (.int p4), .val (.long p5), .second, .val (.int z7), .val (.int z8), .val (.int r9), .val (.int r10), .val (.ref b158), .val (.ref b172), .val (.int (1 : Int32))]) rfl k) ?_
          show own_goW _ _ _ _ _ _ _ _ _ _ (T246.setTop (mkF m 151 #[.val (.int p0), .val (.int p1), .val (.int p2), .val (.int p3), .val (.int p4), .val (.long p5), .second, .val (.int z7), .val (.int z8), .val (.int r9), .val (.int r10), .val (.ref b158), .val (.ref b172), .val (.int (1 : Int32))] []))
          refine own_stW (fun _ k => XS.aload X246.here hx rfl (hb hby at_151) rfl rfl k) ?_
          show own_goW _ _ _ _ _ _ _ _ _ _ (T246.setTop (mkF m 153 #[.val (.int p0), .val (.int p1), .val (.int p2), .val (.int p3), .val (.int p4), .val (.long p5), .second, .val (.int z7), .val (.int z8), .val (.int r9), .val (.int r10), .val (.ref b158), .val (.ref b172), .val (.int (1 : Int32))] [(.ref b158)]))
          refine own_stW (fun _ k => XS.aload X246.here hx rfl (hb hby at_153) rfl rfl k) ?_
          show own_goW _ _ _ _ _ _ _ _ _ _ (T246.setTop (mkF m 155 #[.val (.int p0), .val (.int p1), .val (.int p2), .val (.int p3), .val (.int p4), .val (.long p5), .second, .val (.int z7), .val (.int z8), .val (.int r9), .val (.int r10), .val (.ref b158), .val (.ref b172), .val (.int (1 : Int32))] [(.ref b172), (.ref b158)]))
          have f271 := ((((F164_2.ext E172).keep Kq178 nin0).keep Kq184 nin0).keep Kq193 (ninS ne_b158_b172 nin0))
          have z7q : z7 = 1 := hz7.resolve_left hc199
          have frq := f271
          rw [z7q] at frq
          have f272 := ((((F164_0.ext E172).keep Kq178 nin0).keep Kq184 nin0).keep Kq193 (ninS ne_b158_b172 nin0))
          have f273 := ((((F164_1.ext E172).keep Kq178 nin0).keep Kq184 nin0).keep Kq193 (ninS ne_b158_b172 nin0))
          have f274 := (f191.keep Kq193)
          have f275 := ((f186.keep Kq184).keep Kq193)
          have f276 := ((((((Fc159.keep Kq160 nin0).keep Kq164 (ninS (Ne.symm ne_b158_r159) nin0)).ext E172).keep Kq178 nin0).keep Kq184 nin0).keep Kq193 (ninS ne_r159_b172 nin0))
          have f277 := ((((((Fv159.keep Kq160 nin0).keep Kq164 (ninS (Ne.symm ne_b158_r159) nin0)).ext E172).keep Kq178 nin0).keep Kq184 nin0).keep Kq193 (ninS ne_r159_b172 nin0))
          have f278 := ((f187.keep Kq184 nin0).keep Kq193 (ninS ne_t159_b172 nin0))
          have f279 := ((f188.keep Kq184).keep Kq193)
          have f280 := (((((Fc160.keep Kq164 (ninS (Ne.symm ne_b158_r160) nin0)).ext E172).keep Kq178 nin0).keep Kq184 nin0).keep Kq193 (ninS ne_r160_b172 nin0))
          have f281 := (((((Fv160.keep Kq164 (ninS (Ne.symm ne_b158_r160) nin0)).ext E172).keep Kq178 nin0).keep Kq184 nin0).keep Kq193 (ninS ne_r160_b172 nin0))
          have f282 := ((f189.keep Kq184 nin0).keep Kq193 (ninS ne_t160_b172 nin0))
          have f283 := ((A178.keep Kq184).keep Kq193)
          have f284 := ((Fc178.keep Kq184 nin0).keep Kq193 (ninS (Ne.symm ne_b172_r178) nin0))
          have f285 := ((Fv178.keep Kq184 nin0).keep Kq193 (ninS (Ne.symm ne_b172_r178) nin0))
          have f286 := (f192.keep Kq193 (ninS (Ne.symm ne_b172_t178) nin0))
          have f287 := (A184.keep Kq193)
          have f288 := (Fc184.keep Kq193 (ninS (Ne.symm ne_b172_r184) nin0))
          have f289 := (Fv184.keep Kq193 (ninS (Ne.symm ne_b172_r184) nin0))
          have f290 := (Vt184.keep Kq193 (ninS (Ne.symm ne_b172_t184) nin0))
          have f291 := ((f185.keep Kq184).keep Kq193)
          obtain ⟨v270, T270, L270, X270, hQ270, st270⟩ := own_callV X246 hx hZ184 (argsL := [(.ref b172)]) (rest := []) (rm_go3 l Z a0 hw b158 b172 r159 r160 r178 r184 t159 kt159 (own_cs p0) t160 kt160 (own_cs p1) t178 kt178 (own_cs r9) t184 kt184 (own_cs r10) z_COMPACT_STRINGS T193.heap n0 O193 hS f272 f273 frq f274 F193_0 F193_1 f275 f276 f277 f278 (own_csb _) (own_csl _) f279 f280 f281 f282 (own_csb _) (own_csl _) f283 f284 f285 f286 (own_csb _) (own_csl _) f287 f288 f289 f290 (own_csb _) (own_csl _) (own_same1 hc223) (own_same1 hc247)) hown184 (hw _ (List.mem_of_getElem? (i := 90) rfl)) (hw _ (List.mem_of_getElem? (i := 91) rfl)) (notFace_of_selects (args := #[]) (mvT hZ184 (hw _ (List.mem_of_getElem? (i := 93) rfl)))) (hw _ (List.mem_of_getElem? (i := 93) rfl)) (hw _ (List.mem_of_getElem? (i := 92) rfl)) (hw _ (List.mem_of_getElem? (i := 2) rfl)) (hw _ (List.mem_of_getElem? (i := 94) rfl)) (by decide) eq246 f291 (g := (mkF m 155 #[.val (.int p0), .val (.int p1), .val (.int p2), .val (.int p3), .val (.int p4), .val (.long p5), .second, .val (.int z7), .val (.int z8), .val (.int r9), .val (.int r10), .val (.ref b158), .val (.ref b172), .val (.int (1 : Int32))] [(.ref b172), (.ref b158)])) rfl (by rw [hml]; rfl) (lenOf own_pd__28Lcom_2fexample_2fusher_2fusher_2fOutboxRuns_24Run_3b_29Z rfl) rfl (W := 0) (by show 2 * 0 + _ ≤ _; exact Nat.le_of_eq rfl) (hb hby at_155) (by decide) (by decide) (by decide) (by decide)
          obtain ⟨rfl, Nq270, eq270⟩ := hQ270
          have N270 := Fr.app N246 Nq270
          refine own_stW st270 ?_
          show own_goW _ _ _ _ _ _ _ _ _ _ (T270.setTop (mkF m 158 #[.val (.int p0), .val (.int p1), .val (.int p2), .val (.int p3), .val (.int p4), .val (.long p5), .second, .val (.int z7), .val (.int z8), .val (.int r9), .val (.int r10), .val (.ref b158), .val (.ref b172), .val (.int (1 : Int32))] [(.int (1 : Int32))]))
          refine own_stW (fun _ k => XS.iload X270.here hx rfl (hb hby at_158) rfl k) ?_
          show own_goW _ _ _ _ _ _ _ _ _ _ (T270.setTop (mkF m 160 #[.val (.int p0), .val (.int p1), .val (.int p2), .val (.int p3), .val (.int p4), .val (.long p5), .second, .val (.int z7), .val (.int z8), .val (.int r9), .val (.int r10), .val (.ref b158), .val (.ref b172), .val (.int (1 : Int32))] [(.int (1 : Int32)), (.int (1 : Int32))]))
          refine own_stW (fun _ k => XS.icmpNo X270.here hx rfl (hb hby at_160) rfl (by decide) k) ?_
          show own_goW _ _ _ _ _ _ _ _ _ _ (T270.setTop (mkF m 163 #[.val (.int p0), .val (.int p1), .val (.int p2), .val (.int p3), .val (.int p4), .val (.long p5), .second, .val (.int z7), .val (.int z8), .val (.int r9), .val (.int r10), .val (.ref b158), .val (.ref b172), .val (.int (1 : Int32))] []))
          refine own_stW (fun _ k => XS.iconst X270.here hx rfl (hb hby at_163) k) ?_
          show own_goW _ _ _ _ _ _ _ _ _ _ (T270.setTop (mkF m 164 #[.val (.int p0), .val (.int p1), .val (.int p2), .val (.int p3), .val (.int p4), .val (.long p5), .second, .val (.int z7), .val (.int z8), .val (.int r9), .val (.int r10), .val (.ref b158), .val (.ref b172), .val (.int (1 : Int32))] [(.int (1 : Int32))]))
          refine own_stW (fun _ k => XS.goto X270.here hx rfl (pc0 := 164) (pc' := 168) rfl (hb hby at_164) (by decide) (by decide) k) ?_
          show own_goW _ _ _ _ _ _ _ _ _ _ (T270.setTop (mkF m 168 #[.val (.int p0), .val (.int p1), .val (.int p2), .val (.int p3), .val (.int p4), .val (.long p5), .second, .val (.int z7), .val (.int z8), .val (.int r9), .val (.int r10), .val (.ref b158), .val (.ref b172), .val (.int (1 : Int32))] [(.int (1 : Int32))]))
          exact own_retNW X270 hx hlk hS184 hkk193 hZ184 hEL Ck193 eq270 (t := .boolean) hret (by simp) rfl (hb hby at_168) (by decide) (by decide) (⟨rfl, N270⟩)
  refine own_stW (fun _ k => XS.iload X0.here hx rfl (hb hby at_0) rfl k) ?_
  show own_goW _ _ _ _ _ _ _ _ _ _ (s₁.setTop (mkF m 2 #[.val (.int p0), .val (.int p1), .val (.int p2), .val (.int p3), .val (.int p4), .val (.long p5), .second, .unset, .unset, .unset, .unset, .unset, .unset, .unset] [(.int p4)]))
  refine own_stW (fun _ k => XS.iconst X0.here hx rfl (hb hby at_2) k) ?_
  show own_goW _ _ _ _ _ _ _ _ _ _ (s₁.setTop (mkF m 3 #[.val (.int p0), .val (.int p1), .val (.int p2), .val (.int p3), .val (.int p4), .val (.long p5), .second, .unset, .unset, .unset, .unset, .unset, .unset, .unset] [(.int (1 : Int32)), (.int p4)]))
  refine own_stW (fun _ k => XS.iand X0.here hx rfl (hb hby at_3) rfl k) ?_
  show own_goW _ _ _ _ _ _ _ _ _ _ (s₁.setTop (mkF m 4 #[.val (.int p0), .val (.int p1), .val (.int p2), .val (.int p3), .val (.int p4), .val (.long p5), .second, .unset, .unset, .unset, .unset, .unset, .unset, .unset] [(.int (p4 &&& (1 : Int32)))]))
  by_cases hc292 : (p4 &&& (1 : Int32)) = (0 : Int32)
  · skip
    refine own_stW (fun _ k => XS.ifYes X0.here hx rfl (pc0 := 4) (pc' := 11) rfl (hb hby at_4) rfl (XT.i0_eq_t hc292) (by decide) (by decide) k) ?_
    show own_goW _ _ _ _ _ _ _ _ _ _ (s₁.setTop (mkF m 11 #[.val (.int p0), .val (.int p1), .val (.int p2), .val (.int p3), .val (.int p4), .val (.long p5), .second, .unset, .unset, .unset, .unset, .unset, .unset, .unset] []))
    refine own_stW (fun _ k => XS.iconst X0.here hx rfl (hb hby at_11) k) ?_
    show own_goW _ _ _ _ _ _ _ _ _ _ (s₁.setTop (mkF m 12 #[.val (.int p0), .val (.int p1), .val (.int p2), .val (.int p3), .val (.int p4), .val (.long p5), .second, .unset, .unset, .unset, .unset, .unset, .unset, .unset] [(.int (0 : Int32))]))
    refine own_stW (fun _ k => XS.istore X0.here hx rfl (hb hby at_12) rfl (l' := #[.val (.int p0), .val (.int p1), .val (.int p2), .val (.int p3), .val (.int p4), .val (.long p5), .second, .val (.int (0 : Int32)), .unset, .unset, .unset, .unset, .unset, .unset]) rfl k) ?_
    show own_goW _ _ _ _ _ _ _ _ _ _ (s₁.setTop (mkF m 14 #[.val (.int p0), .val (.int p1), .val (.int p2), .val (.int p3), .val (.int p4), .val (.long p5), .second, .val (.int (0 : Int32)), .unset, .unset, .unset, .unset, .unset, .unset] []))
    refine own_stW (fun _ k => XS.iload X0.here hx rfl (hb hby at_14) rfl k) ?_
    show own_goW _ _ _ _ _ _ _ _ _ _ (s₁.setTop (mkF m 16 #[.val (.int p0), .val (.int p1), .val (.int p2), .val (.int p3), .val (.int p4), .val (.long p5), .second, .val (.int (0 : Int32)), .unset, .unset, .unset, .unset, .unset, .unset] [(.int p4)]))
    refine own_stW (fun _ k => XS.bipush X0.here hx rfl (hb hby at_16) k) ?_
    show own_goW _ _ _ _ _ _ _ _ _ _ (s₁.setTop (mkF m 18 #[.val (.int p0), .val (.int p1), .val (.int p2), .val (.int p3), .val (.int p4), .val (.long p5), .second, .val (.int (0 : Int32)), .unset, .unset, .unset, .unset, .unset, .unset] [(.int (8 : Int32)), (.int p4)]))
    refine own_stW (fun _ k => XS.iand X0.here hx rfl (hb hby at_18) rfl k) ?_
    show own_goW _ _ _ _ _ _ _ _ _ _ (s₁.setTop (mkF m 19 #[.val (.int p0), .val (.int p1), .val (.int p2), .val (.int p3), .val (.int p4), .val (.long p5), .second, .val (.int (0 : Int32)), .unset, .unset, .unset, .unset, .unset, .unset] [(.int (p4 &&& (8 : Int32)))]))
    by_cases hc293 : (p4 &&& (8 : Int32)) = (0 : Int32)
    · skip
      refine own_stW (fun _ k => XS.ifYes X0.here hx rfl (pc0 := 19) (pc' := 26) rfl (hb hby at_19) rfl (XT.i0_eq_t hc293) (by decide) (by decide) k) ?_
      show own_goW _ _ _ _ _ _ _ _ _ _ (s₁.setTop (mkF m 26 #[.val (.int p0), .val (.int p1), .val (.int p2), .val (.int p3), .val (.int p4), .val (.long p5), .second, .val (.int (0 : Int32)), .unset, .unset, .unset, .unset, .unset, .unset] []))
      refine own_stW (fun _ k => XS.iconst X0.here hx rfl (hb hby at_26) k) ?_
      show own_goW _ _ _ _ _ _ _ _ _ _ (s₁.setTop (mkF m 27 #[.val (.int p0), .val (.int p1), .val (.int p2), .val (.int p3), .val (.int p4), .val (.long p5), .second, .val (.int (0 : Int32)), .unset, .unset, .unset, .unset, .unset, .unset] [(.int (0 : Int32))]))
      refine own_stW (fun _ k => XS.istore X0.here hx rfl (hb hby at_27) rfl (l' := #[.val (.int p0), .val (.int p1), .val (.int p2), .val (.int p3), .val (.int p4), .val (.long p5), .second, .val (.int (0 : Int32)), .val (.int (0 : Int32)), .unset, .unset, .unset, .unset, .unset]) rfl k) ?_
      show own_goW _ _ _ _ _ _ _ _ _ _ (s₁.setTop (mkF m 29 #[.val (.int p0), .val (.int p1), .val (.int p2), .val (.int p3), .val (.int p4), .val (.long p5), .second, .val (.int (0 : Int32)), .val (.int (0 : Int32)), .unset, .unset, .unset, .unset, .unset] []))
      refine own_stW (fun _ k => XS.iload X0.here hx rfl (hb hby at_29) rfl k) ?_
      show own_goW _ _ _ _ _ _ _ _ _ _ (s₁.setTop (mkF m 31 #[.val (.int p0), .val (.int p1), .val (.int p2), .val (.int p3), .val (.int p4), .val (.long p5), .second, .val (.int (0 : Int32)), .val (.int (0 : Int32)), .unset, .unset, .unset, .unset, .unset] [(.int p4)]))
      refine own_stW (fun _ k => XS.iconst X0.here hx rfl (hb hby at_31) k) ?_
      show own_goW _ _ _ _ _ _ _ _ _ _ (s₁.setTop (mkF m 32 #[.val (.int p0), .val (.int p1), .val (.int p2), .val (.int p3), .val (.int p4), .val (.long p5), .second, .val (.int (0 : Int32)), .val (.int (0 : Int32)), .unset, .unset, .unset, .unset, .unset] [(.int (2 : Int32)), (.int p4)]))
      refine own_stW (fun _ k => XS.iand X0.here hx rfl (hb hby at_32) rfl k) ?_
      show own_goW _ _ _ _ _ _ _ _ _ _ (s₁.setTop (mkF m 33 #[.val (.int p0), .val (.int p1), .val (.int p2), .val (.int p3), .val (.int p4), .val (.long p5), .second, .val (.int (0 : Int32)), .val (.int (0 : Int32)), .unset, .unset, .unset, .unset, .unset] [(.int (p4 &&& (2 : Int32)))]))
      by_cases hc294 : (p4 &&& (2 : Int32)) = (0 : Int32)
      · skip
        refine own_stW (fun _ k => XS.ifYes X0.here hx rfl (pc0 := 33) (pc' := 40) rfl (hb hby at_33) rfl (XT.i0_eq_t hc294) (by decide) (by decide) k) ?_
        show own_goW _ _ _ _ _ _ _ _ _ _ (s₁.setTop (mkF m 40 #[.val (.int p0), .val (.int p1), .val (.int p2), .val (.int p3), .val (.int p4), .val (.long p5), .second, .val (.int (0 : Int32)), .val (.int (0 : Int32)), .unset, .unset, .unset, .unset, .unset] []))
        refine own_stW (fun _ k => XS.iloadN X0.here hx rfl (hb hby at_40) rfl k) ?_
        show own_goW _ _ _ _ _ _ _ _ _ _ (s₁.setTop (mkF m 41 #[.val (.int p0), .val (.int p1), .val (.int p2), .val (.int p3), .val (.int p4), .val (.long p5), .second, .val (.int (0 : Int32)), .val (.int (0 : Int32)), .unset, .unset, .unset, .unset, .unset] [(.int p2)]))
        refine own_stW (fun _ k => XS.istore X0.here hx rfl (hb hby at_41) rfl (l' := #[.val (.int p0), .val (.int p1), .val (.int p2), .val (.int p3), .val (.int p4), .val (.long p5), .second, .val (.int (0 : Int32)), .val (.int (0 : Int32)), .val (.int p2), .unset, .unset, .unset, .unset]) rfl k) ?_
        show own_goW _ _ _ _ _ _ _ _ _ _ (s₁.setTop (mkF m 43 #[.val (.int p0), .val (.int p1), .val (.int p2), .val (.int p3), .val (.int p4), .val (.long p5), .second, .val (.int (0 : Int32)), .val (.int (0 : Int32)), .val (.int p2), .unset, .unset, .unset, .unset] []))
        refine own_stW (fun _ k => XS.iload X0.here hx rfl (hb hby at_43) rfl k) ?_
        show own_goW _ _ _ _ _ _ _ _ _ _ (s₁.setTop (mkF m 45 #[.val (.int p0), .val (.int p1), .val (.int p2), .val (.int p3), .val (.int p4), .val (.long p5), .second, .val (.int (0 : Int32)), .val (.int (0 : Int32)), .val (.int p2), .unset, .unset, .unset, .unset] [(.int p4)]))
        refine own_stW (fun _ k => XS.iconst X0.here hx rfl (hb hby at_45) k) ?_
        show own_goW _ _ _ _ _ _ _ _ _ _ (s₁.setTop (mkF m 46 #[.val (.int p0), .val (.int p1), .val (.int p2), .val (.int p3), .val (.int p4), .val (.long p5), .second, .val (.int (0 : Int32)), .val (.int (0 : Int32)), .val (.int p2), .unset, .unset, .unset, .unset] [(.int (4 : Int32)), (.int p4)]))
        refine own_stW (fun _ k => XS.iand X0.here hx rfl (hb hby at_46) rfl k) ?_
        show own_goW _ _ _ _ _ _ _ _ _ _ (s₁.setTop (mkF m 47 #[.val (.int p0), .val (.int p1), .val (.int p2), .val (.int p3), .val (.int p4), .val (.long p5), .second, .val (.int (0 : Int32)), .val (.int (0 : Int32)), .val (.int p2), .unset, .unset, .unset, .unset] [(.int (p4 &&& (4 : Int32)))]))
        by_cases hc295 : (p4 &&& (4 : Int32)) = (0 : Int32)
        · skip
          refine own_stW (fun _ k => XS.ifYes X0.here hx rfl (pc0 := 47) (pc' := 54) rfl (hb hby at_47) rfl (XT.i0_eq_t hc295) (by decide) (by decide) k) ?_
          show own_goW _ _ _ _ _ _ _ _ _ _ (s₁.setTop (mkF m 54 #[.val (.int p0), .val (.int p1), .val (.int p2), .val (.int p3), .val (.int p4), .val (.long p5), .second, .val (.int (0 : Int32)), .val (.int (0 : Int32)), .val (.int p2), .unset, .unset, .unset, .unset] []))
          refine own_stW (fun _ k => XS.iloadN X0.here hx rfl (hb hby at_54) rfl k) ?_
          show own_goW _ _ _ _ _ _ _ _ _ _ (s₁.setTop (mkF m 55 #[.val (.int p0), .val (.int p1), .val (.int p2), .val (.int p3), .val (.int p4), .val (.long p5), .second, .val (.int (0 : Int32)), .val (.int (0 : Int32)), .val (.int p2), .unset, .unset, .unset, .unset] [(.int p3)]))
          refine own_stW (fun _ k => XS.istore X0.here hx rfl (hb hby at_55) rfl (l' := #[.val (.int p0), .val (.int p1), .val (.int p2), .val (.int p3), .val (.int p4), .val (.long p5), .second, .val (.int (0 : Int32)), .val (.int (0 : Int32)), .val (.int p2), .val (.int p3), .unset, .unset, .unset]) rfl k) ?_
          show own_goW _ _ _ _ _ _ _ _ _ _ (s₁.setTop (mkF m 57 #[.val (.int p0), .val (.int p1), .val (.int p2), .val (.int p3), .val (.int p4), .val (.long p5), .second, .val (.int (0 : Int32)), .val (.int (0 : Int32)), .val (.int p2), .val (.int p3), .unset, .unset, .unset] []))
          exact tail (0 : Int32) (0 : Int32) p2 p3 (by decide) (by decide)
        · skip
          refine own_stW (fun _ k => XS.ifNo X0.here hx rfl (hb hby at_47) rfl (XT.i0_eq_f hc295) k) ?_
          show own_goW _ _ _ _ _ _ _ _ _ _ (s₁.setTop (mkF m 50 #[.val (.int p0), .val (.int p1), .val (.int p2), .val (.int p3), .val (.int p4), .val (.long p5), .second, .val (.int (0 : Int32)), .val (.int (0 : Int32)), .val (.int p2), .unset, .unset, .unset, .unset] []))
          refine own_stW (fun _ k => XS.iloadN X0.here hx rfl (hb hby at_50) rfl k) ?_
          show own_goW _ _ _ _ _ _ _ _ _ _ (s₁.setTop (mkF m 51 #[.val (.int p0), .val (.int p1), .val (.int p2), .val (.int p3), .val (.int p4), .val (.long p5), .second, .val (.int (0 : Int32)), .val (.int (0 : Int32)), .val (.int p2), .unset, .unset, .unset, .unset] [(.int p1)]))
          refine own_stW (fun _ k => XS.goto X0.here hx rfl (pc0 := 51) (pc' := 55) rfl (hb hby at_51) (by decide) (by decide) k) ?_
          show own_goW _ _ _ _ _ _ _ _ _ _ (s₁.setTop (mkF m 55 #[.val (.int p0), .val (.int p1), .val (.int p2), .val (.int p3), .val (.int p4), .val (.long p5), .second, .val (.int (0 : Int32)), .val (.int (0 : Int32)), .val (.int p2), .unset, .unset, .unset, .unset] [(.int p1)]))
          refine own_stW (fun _ k => XS.istore X0.here hx rfl (hb hby at_55) rfl (l' := #[.val (.int p0), .val (.int p1), .val (.int p2), .val (.int p3), .val (.int p4), .val (.long p5), .second, .val (.int (0 : Int32)), .val (.int (0 : Int32)), .val (.int p2), .val (.int p1), .unset, .unset, .unset]) rfl k) ?_
          show own_goW _ _ _ _ _ _ _ _ _ _ (s₁.setTop (mkF m 57 #[.val (.int p0), .val (.int p1), .val (.int p2), .val (.int p3), .val (.int p4), .val (.long p5), .second, .val (.int (0 : Int32)), .val (.int (0 : Int32)), .val (.int p2), .val (.int p1), .unset, .unset, .unset] []))
          exact tail (0 : Int32) (0 : Int32) p2 p1 (by decide) (by decide)
      · skip
        refine own_stW (fun _ k => XS.ifNo X0.here hx rfl (hb hby at_33) rfl (XT.i0_eq_f hc294) k) ?_
        show own_goW _ _ _ _ _ _ _ _ _ _ (s₁.setTop (mkF m 36 #[.val (.int p0), .val (.int p1), .val (.int p2), .val (.int p3), .val (.int p4), .val (.long p5), .second, .val (.int (0 : Int32)), .val (.int (0 : Int32)), .unset, .unset, .unset, .unset, .unset] []))
        refine own_stW (fun _ k => XS.iloadN X0.here hx rfl (hb hby at_36) rfl k) ?_
        show own_goW _ _ _ _ _ _ _ _ _ _ (s₁.setTop (mkF m 37 #[.val (.int p0), .val (.int p1), .val (.int p2), .val (.int p3), .val (.int p4), .val (.long p5), .second, .val (.int (0 : Int32)), .val (.int (0 : Int32)), .unset, .unset, .unset, .unset, .unset] [(.int p0)]))
        refine own_stW (fun _ k => XS.goto X0.here hx rfl (pc0 := 37) (pc' := 41) rfl (hb hby at_37) (by decide) (by decide) k) ?_
        show own_goW _ _ _ _ _ _ _ _ _ _ (s₁.setTop (mkF m 41 #[.val (.int p0), .val (.int p1), .val (.int p2), .val (.int p3), .val (.int p4), .val (.long p5), .second, .val (.int (0 : Int32)), .val (.int (0 : Int32)), .unset, .unset, .unset, .unset, .unset] [(.int p0)]))
        refine own_stW (fun _ k => XS.istore X0.here hx rfl (hb hby at_41) rfl (l' := #[.val (.int p0), .val (.int p1), .val (.int p2), .val (.int p3), .val (.int p4), .val (.long p5), .second, .val (.int (0 : Int32)), .val (.int (0 : Int32)), .val (.int p0), .unset, .unset, .unset, .unset]) rfl k) ?_
        show own_goW _ _ _ _ _ _ _ _ _ _ (s₁.setTop (mkF m 43 #[.val (.int p0), .val (.int p1), .val (.int p2), .val (.int p3), .val (.int p4), .val (.long p5), .second, .val (.int (0 : Int32)), .val (.int (0 : Int32)), .val (.int p0), .unset, .unset, .unset, .unset] []))
        refine own_stW (fun _ k => XS.iload X0.here hx rfl (hb hby at_43) rfl k) ?_
        show own_goW _ _ _ _ _ _ _ _ _ _ (s₁.setTop (mkF m 45 #[.val (.int p0), .val (.int p1), .val (.int p2), .val (.int p3), .val (.int p4), .val (.long p5), .second, .val (.int (0 : Int32)), .val (.int (0 : Int32)), .val (.int p0), .unset, .unset, .unset, .unset] [(.int p4)]))
        refine own_stW (fun _ k => XS.iconst X0.here hx rfl (hb hby at_45) k) ?_
        show own_goW _ _ _ _ _ _ _ _ _ _ (s₁.setTop (mkF m 46 #[.val (.int p0), .val (.int p1), .val (.int p2), .val (.int p3), .val (.int p4), .val (.long p5), .second, .val (.int (0 : Int32)), .val (.int (0 : Int32)), .val (.int p0), .unset, .unset, .unset, .unset] [(.int (4 : Int32)), (.int p4)]))
        refine own_stW (fun _ k => XS.iand X0.here hx rfl (hb hby at_46) rfl k) ?_
        show own_goW _ _ _ _ _ _ _ _ _ _ (s₁.setTop (mkF m 47 #[.val (.int p0), .val (.int p1), .val (.int p2), .val (.int p3), .val (.int p4), .val (.long p5), .second, .val (.int (0 : Int32)), .val (.int (0 : Int32)), .val (.int p0), .unset, .unset, .unset, .unset] [(.int (p4 &&& (4 : Int32)))]))
        by_cases hc296 : (p4 &&& (4 : Int32)) = (0 : Int32)
        · skip
          refine own_stW (fun _ k => XS.ifYes X0.here hx rfl (pc0 := 47) (pc' := 54) rfl (hb hby at_47) rfl (XT.i0_eq_t hc296) (by decide) (by decide) k) ?_
          show own_goW _ _ _ _ _ _ _ _ _ _ (s₁.setTop (mkF m 54 #[.val (.int p0), .val (.int p1), .val (.int p2), .val (.int p3), .val (.int p4), .val (.long p5), .second, .val (.int (0 : Int32)), .val (.int (0 : Int32)), .val (.int p0), .unset, .unset, .unset, .unset] []))
          refine own_stW (fun _ k => XS.iloadN X0.here hx rfl (hb hby at_54) rfl k) ?_
          show own_goW _ _ _ _ _ _ _ _ _ _ (s₁.setTop (mkF m 55 #[.val (.int p0), .val (.int p1), .val (.int p2), .val (.int p3), .val (.int p4), .val (.long p5), .second, .val (.int (0 : Int32)), .val (.int (0 : Int32)), .val (.int p0), .unset, .unset, .unset, .unset] [(.int p3)]))
          refine own_stW (fun _ k => XS.istore X0.here hx rfl (hb hby at_55) rfl (l' := #[.val (.int p0), .val (.int p1), .val (.int p2), .val (.int p3), .val (.int p4), .val (.long p5), .second, .val (.int (0 : Int32)), .val (.int (0 : Int32)), .val (.int p0), .val (.int p3), .unset, .unset, .unset]) rfl k) ?_
          show own_goW _ _ _ _ _ _ _ _ _ _ (s₁.setTop (mkF m 57 #[.val (.int p0), .val (.int p1), .val (.int p2), .val (.int p3), .val (.int p4), .val (.long p5), .second, .val (.int (0 : Int32)), .val (.int (0 : Int32)), .val (.int p0), .val (.int p3), .unset, .unset, .unset] []))
          exact tail (0 : Int32) (0 : Int32) p0 p3 (by decide) (by decide)
        · skip
          refine own_stW (fun _ k => XS.ifNo X0.here hx rfl (hb hby at_47) rfl (XT.i0_eq_f hc296) k) ?_
          show own_goW _ _ _ _ _ _ _ _ _ _ (s₁.setTop (mkF m 50 #[.val (.int p0), .val (.int p1), .val (.int p2), .val (.int p3), .val (.int p4), .val (.long p5), .second, .val (.int (0 : Int32)), .val (.int (0 : Int32)), .val (.int p0), .unset, .unset, .unset, .unset] []))
          refine own_stW (fun _ k => XS.iloadN X0.here hx rfl (hb hby at_50) rfl k) ?_
          show own_goW _ _ _ _ _ _ _ _ _ _ (s₁.setTop (mkF m 51 #[.val (.int p0), .val (.int p1), .val (.int p2), .val (.int p3), .val (.int p4), .val (.long p5), .second, .val (.int (0 : Int32)), .val (.int (0 : Int32)), .val (.int p0), .unset, .unset, .unset, .unset] [(.int p1)]))
          refine own_stW (fun _ k => XS.goto X0.here hx rfl (pc0 := 51) (pc' := 55) rfl (hb hby at_51) (by decide) (by decide) k) ?_
          show own_goW _ _ _ _ _ _ _ _ _ _ (s₁.setTop (mkF m 55 #[.val (.int p0), .val (.int p1), .val (.int p2), .val (.int p3), .val (.int p4), .val (.long p5), .second, .val (.int (0 : Int32)), .val (.int (0 : Int32)), .val (.int p0), .unset, .unset, .unset, .unset] [(.int p1)]))
          refine own_stW (fun _ k => XS.istore X0.here hx rfl (hb hby at_55) rfl (l' := #[.val (.int p0), .val (.int p1), .val (.int p2), .val (.int p3), .val (.int p4), .val (.long p5), .second, .val (.int (0 : Int32)), .val (.int (0 : Int32)), .val (.int p0), .val (.int p1), .unset, .unset, .unset]) rfl k) ?_
          show own_goW _ _ _ _ _ _ _ _ _ _ (s₁.setTop (mkF m 57 #[.val (.int p0), .val (.int p1), .val (.int p2), .val (.int p3), .val (.int p4), .val (.long p5), .second, .val (.int (0 : Int32)), .val (.int (0 : Int32)), .val (.int p0), .val (.int p1), .unset, .unset, .unset] []))
          exact tail (0 : Int32) (0 : Int32) p0 p1 (by decide) (by decide)
    · skip
      refine own_stW (fun _ k => XS.ifNo X0.here hx rfl (hb hby at_19) rfl (XT.i0_eq_f hc293) k) ?_
      show own_goW _ _ _ _ _ _ _ _ _ _ (s₁.setTop (mkF m 22 #[.val (.int p0), .val (.int p1), .val (.int p2), .val (.int p3), .val (.int p4), .val (.long p5), .second, .val (.int (0 : Int32)), .unset, .unset, .unset, .unset, .unset, .unset] []))
      refine own_stW (fun _ k => XS.iconst X0.here hx rfl (hb hby at_22) k) ?_
      show own_goW _ _ _ _ _ _ _ _ _ _ (s₁.setTop (mkF m 23 #[.val (.int p0), .val (.int p1), .val (.int p2), .val (.int p3), .val (.int p4), .val (.long p5), .second, .val (.int (0 : Int32)), .unset, .unset, .unset, .unset, .unset, .unset] [(.int (1 : Int32))]))
      refine own_stW (fun _ k => XS.goto X0.here hx rfl (pc0 := 23) (pc' := 27) rfl (hb hby at_23) (by decide) (by decide) k) ?_
      show own_goW _ _ _ _ _ _ _ _ _ _ (s₁.setTop (mkF m 27 #[.val (.int p0), .val (.int p1), .val (.int p2), .val (.int p3), .val (.int p4), .val (.long p5), .second, .val (.int (0 : Int32)), .unset, .unset, .unset, .unset, .unset, .unset] [(.int (1 : Int32))]))
      refine own_stW (fun _ k => XS.istore X0.here hx rfl (hb hby at_27) rfl (l' := #[.val (.int p0), .val (.int p1), .val (.int p2), .val (.int p3), .val (.int p4), .val (.long p5), .second, .val (.int (0 : Int32)), .val (.int (1 : Int32)), .unset, .unset, .unset, .unset, .unset]) rfl k) ?_
      show own_goW _ _ _ _ _ _ _ _ _ _ (s₁.setTop (mkF m 29 #[.val (.int p0), .val (.int p1), .val (.int p2), .val (.int p3), .val (.int p4), .val (.long p5), .second, .val (.int (0 : Int32)), .val (.int (1 : Int32)), .unset, .unset, .unset, .unset, .unset] []))
      refine own_stW (fun _ k => XS.iload X0.here hx rfl (hb hby at_29) rfl k) ?_
      show own_goW _ _ _ _ _ _ _ _ _ _ (s₁.setTop (mkF m 31 #[.val (.int p0), .val (.int p1), .val (.int p2), .val (.int p3), .val (.int p4), .val (.long p5), .second, .val (.int (0 : Int32)), .val (.int (1 : Int32)), .unset, .unset, .unset, .unset, .unset] [(.int p4)]))
      refine own_stW (fun _ k => XS.iconst X0.here hx rfl (hb hby at_31) k) ?_
      show own_goW _ _ _ _ _ _ _ _ _ _ (s₁.setTop (mkF m 32 #[.val (.int p0), .val (.int p1), .val (.int p2), .val (.int p3), .val (.int p4), .val (.long p5), .second, .val (.int (0 : Int32)), .val (.int (1 : Int32)), .unset, .unset, .unset, .unset, .unset] [(.int (2 : Int32)), (.int p4)]))
      refine own_stW (fun _ k => XS.iand X0.here hx rfl (hb hby at_32) rfl k) ?_
      show own_goW _ _ _ _ _ _ _ _ _ _ (s₁.setTop (mkF m 33 #[.val (.int p0), .val (.int p1), .val (.int p2), .val (.int p3), .val (.int p4), .val (.long p5), .second, .val (.int (0 : Int32)), .val (.int (1 : Int32)), .unset, .unset, .unset, .unset, .unset] [(.int (p4 &&& (2 : Int32)))]))
      by_cases hc297 : (p4 &&& (2 : Int32)) = (0 : Int32)
      · skip
        refine own_stW (fun _ k => XS.ifYes X0.here hx rfl (pc0 := 33) (pc' := 40) rfl (hb hby at_33) rfl (XT.i0_eq_t hc297) (by decide) (by decide) k) ?_
        show own_goW _ _ _ _ _ _ _ _ _ _ (s₁.setTop (mkF m 40 #[.val (.int p0), .val (.int p1), .val (.int p2), .val (.int p3), .val (.int p4), .val (.long p5), .second, .val (.int (0 : Int32)), .val (.int (1 : Int32)), .unset, .unset, .unset, .unset, .unset] []))
        refine own_stW (fun _ k => XS.iloadN X0.here hx rfl (hb hby at_40) rfl k) ?_
        show own_goW _ _ _ _ _ _ _ _ _ _ (s₁.setTop (mkF m 41 #[.val (.int p0), .val (.int p1), .val (.int p2), .val (.int p3), .val (.int p4), .val (.long p5), .second, .val (.int (0 : Int32)), .val (.int (1 : Int32)), .unset, .unset, .unset, .unset, .unset] [(.int p2)]))
        refine own_stW (fun _ k => XS.istore X0.here hx rfl (hb hby at_41) rfl (l' := #[.val (.int p0), .val (.int p1), .val (.int p2), .val (.int p3), .val (.int p4), .val (.long p5), .second, .val (.int (0 : Int32)), .val (.int (1 : Int32)), .val (.int p2), .unset, .unset, .unset, .unset]) rfl k) ?_
        show own_goW _ _ _ _ _ _ _ _ _ _ (s₁.setTop (mkF m 43 #[.val (.int p0), .val (.int p1), .val (.int p2), .val (.int p3), .val (.int p4), .val (.long p5), .second, .val (.int (0 : Int32)), .val (.int (1 : Int32)), .val (.int p2), .unset, .unset, .unset, .unset] []))
        refine own_stW (fun _ k => XS.iload X0.here hx rfl (hb hby at_43) rfl k) ?_
        show own_goW _ _ _ _ _ _ _ _ _ _ (s₁.setTop (mkF m 45 #[.val (.int p0), .val (.int p1), .val (.int p2), .val (.int p3), .val (.int p4), .val (.long p5), .second, .val (.int (0 : Int32)), .val (.int (1 : Int32)), .val (.int p2), .unset, .unset, .unset, .unset] [(.int p4)]))
        refine own_stW (fun _ k => XS.iconst X0.here hx rfl (hb hby at_45) k) ?_
        show own_goW _ _ _ _ _ _ _ _ _ _ (s₁.setTop (mkF m 46 #[.val (.int p0), .val (.int p1), .val (.int p2), .val (.int p3), .val (.int p4), .val (.long p5), .second, .val (.int (0 : Int32)), .val (.int (1 : Int32)), .val (.int p2), .unset, .unset, .unset, .unset] [(.int (4 : Int32)), (.int p4)]))
        refine own_stW (fun _ k => XS.iand X0.here hx rfl (hb hby at_46) rfl k) ?_
        show own_goW _ _ _ _ _ _ _ _ _ _ (s₁.setTop (mkF m 47 #[.val (.int p0), .val (.int p1), .val (.int p2), .val (.int p3), .val (.int p4), .val (.long p5), .second, .val (.int (0 : Int32)), .val (.int (1 : Int32)), .val (.int p2), .unset, .unset, .unset, .unset] [(.int (p4 &&& (4 : Int32)))]))
        by_cases hc298 : (p4 &&& (4 : Int32)) = (0 : Int32)
        · skip
          refine own_stW (fun _ k => XS.ifYes X0.here hx rfl (pc0 := 47) (pc' := 54) rfl (hb hby at_47) rfl (XT.i0_eq_t hc298) (by decide) (by decide) k) ?_
          show own_goW _ _ _ _ _ _ _ _ _ _ (s₁.setTop (mkF m 54 #[.val (.int p0), .val (.int p1), .val (.int p2), .val (.int p3), .val (.int p4), .val (.long p5), .second, .val (.int (0 : Int32)), .val (.int (1 : Int32)), .val (.int p2), .unset, .unset, .unset, .unset] []))
          refine own_stW (fun _ k => XS.iloadN X0.here hx rfl (hb hby at_54) rfl k) ?_
          show own_goW _ _ _ _ _ _ _ _ _ _ (s₁.setTop (mkF m 55 #[.val (.int p0), .val (.int p1), .val (.int p2), .val (.int p3), .val (.int p4), .val (.long p5), .second, .val (.int (0 : Int32)), .val (.int (1 : Int32)), .val (.int p2), .unset, .unset, .unset, .unset] [(.int p3)]))
          refine own_stW (fun _ k => XS.istore X0.here hx rfl (hb hby at_55) rfl (l' := #[.val (.int p0), .val (.int p1), .val (.int p2), .val (.int p3), .val (.int p4), .val (.long p5), .second, .val (.int (0 : Int32)), .val (.int (1 : Int32)), .val (.int p2), .val (.int p3), .unset, .unset, .unset]) rfl k) ?_
          show own_goW _ _ _ _ _ _ _ _ _ _ (s₁.setTop (mkF m 57 #[.val (.int p0), .val (.int p1), .val (.int p2), .val (.int p3), .val (.int p4), .val (.long p5), .second, .val (.int (0 : Int32)), .val (.int (1 : Int32)), .val (.int p2), .val (.int p3), .unset, .unset, .unset] []))
          exact tail (0 : Int32) (1 : Int32) p2 p3 (by decide) (by decide)
        · skip
          refine own_stW (fun _ k => XS.ifNo X0.here hx rfl (hb hby at_47) rfl (XT.i0_eq_f hc298) k) ?_
          show own_goW _ _ _ _ _ _ _ _ _ _ (s₁.setTop (mkF m 50 #[.val (.int p0), .val (.int p1), .val (.int p2), .val (.int p3), .val (.int p4), .val (.long p5), .second, .val (.int (0 : Int32)), .val (.int (1 : Int32)), .val (.int p2), .unset, .unset, .unset, .unset] []))
          refine own_stW (fun _ k => XS.iloadN X0.here hx rfl (hb hby at_50) rfl k) ?_
          show own_goW _ _ _ _ _ _ _ _ _ _ (s₁.setTop (mkF m 51 #[.val (.int p0), .val (.int p1), .val (.int p2), .val (.int p3), .val (.int p4), .val (.long p5), .second, .val (.int (0 : Int32)), .val (.int (1 : Int32)), .val (.int p2), .unset, .unset, .unset, .unset] [(.int p1)]))
          refine own_stW (fun _ k => XS.goto X0.here hx rfl (pc0 := 51) (pc' := 55) rfl (hb hby at_51) (by decide) (by decide) k) ?_
          show own_goW _ _ _ _ _ _ _ _ _ _ (s₁.setTop (mkF m 55 #[.val (.int p0), .val (.int p1), .val (.int p2), .val (.int p3), .val (.int p4), .val (.long p5), .second, .val (.int (0 : Int32)), .val (.int (1 : Int32)), .val (.int p2), .unset, .unset, .unset, .unset] [(.int p1)]))
          refine own_stW (fun _ k => XS.istore X0.here hx rfl (hb hby at_55) rfl (l' := #[.val (.int p0), .val (.int p1), .val (.int p2), .val (.int p3), .val (.int p4), .val (.long p5), .second, .val (.int (0 : Int32)), .val (.int (1 : Int32)), .val (.int p2), .val (.int p1), .unset, .unset, .unset]) rfl k) ?_
          show own_goW _ _ _ _ _ _ _ _ _ _ (s₁.setTop (mkF m 57 #[.val (.int p0), .val (.int p1), .val (.int p2), .val (.int p3), .val (.int p4), .val (.long p5), .second, .val (.int (0 : Int32)), .val (.int (1 : Int32)), .val (.int p2), .val (.int p1), .unset, .unset, .unset] []))
          exact tail (0 : Int32) (1 : Int32) p2 p1 (by decide) (by decide)
      · skip
        refine own_stW (fun _ k => XS.ifNo X0.here hx rfl (hb hby at_33) rfl (XT.i0_eq_f hc297) k) ?_
        show own_goW _ _ _ _ _ _ _ _ _ _ (s₁.setTop (mkF m 36 #[.val (.int p0), .val (.int p1), .val (.int p2), .val (.int p3), .val (.int p4), .val (.long p5), .second, .val (.int (0 : Int32)), .val (.int (1 : Int32)), .unset, .unset, .unset, .unset, .unset] []))
        refine own_stW (fun _ k => XS.iloadN X0.here hx rfl (hb hby at_36) rfl k) ?_
        show own_goW _ _ _ _ _ _ _ _ _ _ (s₁.setTop (mkF m 37 #[.val (.int p0), .val (.int p1), .val (.int p2), .val (.int p3), .val (.int p4), .val (.long p5), .second, .val (.int (0 : Int32)), .val (.int (1 : Int32)), .unset, .unset, .unset, .unset, .unset] [(.int p0)]))
        refine own_stW (fun _ k => XS.goto X0.here hx rfl (pc0 := 37) (pc' := 41) rfl (hb hby at_37) (by decide) (by decide) k) ?_
        show own_goW _ _ _ _ _ _ _ _ _ _ (s₁.setTop (mkF m 41 #[.val (.int p0), .val (.int p1), .val (.int p2), .val (.int p3), .val (.int p4), .val (.long p5), .second, .val (.int (0 : Int32)), .val (.int (1 : Int32)), .unset, .unset, .unset, .unset, .unset] [(.int p0)]))
        refine own_stW (fun _ k => XS.istore X0.here hx rfl (hb hby at_41) rfl (l' := #[.val (.int p0), .val (.int p1), .val (.int p2), .val (.int p3), .val (.int p4), .val (.long p5), .second, .val (.int (0 : Int32)), .val (.int (1 : Int32)), .val (.int p0), .unset, .unset, .unset, .unset]) rfl k) ?_
        show own_goW _ _ _ _ _ _ _ _ _ _ (s₁.setTop (mkF m 43 #[.val (.int p0), .val (.int p1), .val (.int p2), .val (.int p3), .val (.int p4), .val (.long p5), .second, .val (.int (0 : Int32)), .val (.int (1 : Int32)), .val (.int p0), .unset, .unset, .unset, .unset] []))
        refine own_stW (fun _ k => XS.iload X0.here hx rfl (hb hby at_43) rfl k) ?_
        show own_goW _ _ _ _ _ _ _ _ _ _ (s₁.setTop (mkF m 45 #[.val (.int p0), .val (.int p1), .val (.int p2), .val (.int p3), .val (.int p4), .val (.long p5), .second, .val (.int (0 : Int32)), .val (.int (1 : Int32)), .val (.int p0), .unset, .unset, .unset, .unset] [(.int p4)]))
        refine own_stW (fun _ k => XS.iconst X0.here hx rfl (hb hby at_45) k) ?_
        show own_goW _ _ _ _ _ _ _ _ _ _ (s₁.setTop (mkF m 46 #[.val (.int p0), .val (.int p1), .val (.int p2), .val (.int p3), .val (.int p4), .val (.long p5), .second, .val (.int (0 : Int32)), .val (.int (1 : Int32)), .val (.int p0), .unset, .unset, .unset, .unset] [(.int (4 : Int32)), (.int p4)]))
        refine own_stW (fun _ k => XS.iand X0.here hx rfl (hb hby at_46) rfl k) ?_
        show own_goW _ _ _ _ _ _ _ _ _ _ (s₁.setTop (mkF m 47 #[.val (.int p0), .val (.int p1), .val (.int p2), .val (.int p3), .val (.int p4), .val (.long p5), .second, .val (.int (0 : Int32)), .val (.int (1 : Int32)), .val (.int p0), .unset, .unset, .unset, .unset] [(.int (p4 &&& (4 : Int32)))]))
        by_cases hc299 : (p4 &&& (4 : Int32)) = (0 : Int32)
        · skip
          refine own_stW (fun _ k => XS.ifYes X0.here hx rfl (pc0 := 47) (pc' := 54) rfl (hb hby at_47) rfl (XT.i0_eq_t hc299) (by decide) (by decide) k) ?_
          show own_goW _ _ _ _ _ _ _ _ _ _ (s₁.setTop (mkF m 54 #[.val (.int p0), .val (.int p1), .val (.int p2), .val (.int p3), .val (.int p4), .val (.long p5), .second, .val (.int (0 : Int32)), .val (.int (1 : Int32)), .val (.int p0), .unset, .unset, .unset, .unset] []))
          refine own_stW (fun _ k => XS.iloadN X0.here hx rfl (hb hby at_54) rfl k) ?_
          show own_goW _ _ _ _ _ _ _ _ _ _ (s₁.setTop (mkF m 55 #[.val (.int p0), .val (.int p1), .val (.int p2), .val (.int p3), .val (.int p4), .val (.long p5), .second, .val (.int (0 : Int32)), .val (.int (1 : Int32)), .val (.int p0), .unset, .unset, .unset, .unset] [(.int p3)]))
          refine own_stW (fun _ k => XS.istore X0.here hx rfl (hb hby at_55) rfl (l' := #[.val (.int p0), .val (.int p1), .val (.int p2), .val (.int p3), .val (.int p4), .val (.long p5), .second, .val (.int (0 : Int32)), .val (.int (1 : Int32)), .val (.int p0), .val (.int p3), .unset, .unset, .unset]) rfl k) ?_
          show own_goW _ _ _ _ _ _ _ _ _ _ (s₁.setTop (mkF m 57 #[.val (.int p0), .val (.int p1), .val (.int p2), .val (.int p3), .val (.int p4), .val (.long p5), .second, .val (.int (0 : Int32)), .val (.int (1 : Int32)), .val (.int p0), .val (.int p3), .unset, .unset, .unset] []))
          exact tail (0 : Int32) (1 : Int32) p0 p3 (by decide) (by decide)
        · skip
          refine own_stW (fun _ k => XS.ifNo X0.here hx rfl (hb hby at_47) rfl (XT.i0_eq_f hc299) k) ?_
          show own_goW _ _ _ _ _ _ _ _ _ _ (s₁.setTop (mkF m 50 #[.val (.int p0), .val (.int p1), .val (.int p2), .val (.int p3), .val (.int p4), .val (.long p5), .second, .val (.int (0 : Int32)), .val (.int (1 : Int32)), .val (.int p0), .unset, .unset, .unset, .unset] []))
          refine own_stW (fun _ k => XS.iloadN X0.here hx rfl (hb hby at_50) rfl k) ?_
          show own_goW _ _ _ _ _ _ _ _ _ _ (s₁.setTop (mkF m 51 #[.val (.int p0), .val (.int p1), .val (.int p2), .val (.int p3), .val (.int p4), .val (.long p5), .second, .val (.int (0 : Int32)), .val (.int (1 : Int32)), .val (.int p0), .unset, .unset, .unset, .unset] [(.int p1)]))
          refine own_stW (fun _ k => XS.goto X0.here hx rfl (pc0 := 51) (pc' := 55) rfl (hb hby at_51) (by decide) (by decide) k) ?_
          show own_goW _ _ _ _ _ _ _ _ _ _ (s₁.setTop (mkF m 55 #[.val (.int p0), .val (.int p1), .val (.int p2), .val (.int p3), .val (.int p4), .val (.long p5), .second, .val (.int (0 : Int32)), .val (.int (1 : Int32)), .val (.int p0), .unset, .unset, .unset, .unset] [(.int p1)]))
          refine own_stW (fun _ k => XS.istore X0.here hx rfl (hb hby at_55) rfl (l' := #[.val (.int p0), .val (.int p1), .val (.int p2), .val (.int p3), .val (.int p4), .val (.long p5), .second, .val (.int (0 : Int32)), .val (.int (1 : Int32)), .val (.int p0), .val (.int p1), .unset, .unset, .unset]) rfl k) ?_
          show own_goW _ _ _ _ _ _ _ _ _ _ (s₁.setTop (mkF m 57 #[.val (.int p0), .val (.int p1), .val (.int p2), .val (.int p3), .val (.int p4), .val (.long p5), .second, .val (.int (0 : Int32)), .val (.int (1 : Int32)), .val (.int p0), .val (.int p1), .unset, .unset, .unset] []))
          exact tail (0 : Int32) (1 : Int32) p0 p1 (by decide) (by decide)
  · skip
    refine own_stW (fun _ k => XS.ifNo X0.here hx rfl (hb hby at_4) rfl (XT.i0_eq_f hc292) k) ?_
    show own_goW _ _ _ _ _ _ _ _ _ _ (s₁.setTop (mkF m 7 #[.val (.int p0), .val (.int p1), .val (.int p2), .val (.int p3), .val (.int p4), .val (.long p5), .second, .unset, .unset, .unset, .unset, .unset, .unset, .unset] []))
    refine own_stW (fun _ k => XS.iconst X0.here hx rfl (hb hby at_7) k) ?_
    show own_goW _ _ _ _ _ _ _ _ _ _ (s₁.setTop (mkF m 8 #[.val (.int p0), .val (.int p1), .val (.int p2), .val (.int p3), .val (.int p4), .val (.long p5), .second, .unset, .unset, .unset, .unset, .unset, .unset, .unset] [(.int (1 : Int32))]))
    refine own_stW (fun _ k => XS.goto X0.here hx rfl (pc0 := 8) (pc' := 12) rfl (hb hby at_8) (by decide) (by decide) k) ?_
    show own_goW _ _ _ _ _ _ _ _ _ _ (s₁.setTop (mkF m 12 #[.val (.int p0), .val (.int p1), .val (.int p2), .val (.int p3), .val (.int p4), .val (.long p5), .second, .unset, .unset, .unset, .unset, .unset, .unset, .unset] [(.int (1 : Int32))]))
    refine own_stW (fun _ k => XS.istore X0.here hx rfl (hb hby at_12) rfl (l' := #[.val (.int p0), .val (.int p1), .val (.int p2), .val (.int p3), .val (.int p4), .val (.long p5), .second, .val (.int (1 : Int32)), .unset, .unset, .unset, .unset, .unset, .unset]) rfl k) ?_
    show own_goW _ _ _ _ _ _ _ _ _ _ (s₁.setTop (mkF m 14 #[.val (.int p0), .val (.int p1), .val (.int p2), .val (.int p3), .val (.int p4), .val (.long p5), .second, .val (.int (1 : Int32)), .unset, .unset, .unset, .unset, .unset, .unset] []))
    refine own_stW (fun _ k => XS.iload X0.here hx rfl (hb hby at_14) rfl k) ?_
    show own_goW _ _ _ _ _ _ _ _ _ _ (s₁.setTop (mkF m 16 #[.val (.int p0), .val (.int p1), .val (.int p2), .val (.int p3), .val (.int p4), .val (.long p5), .second, .val (.int (1 : Int32)), .unset, .unset, .unset, .unset, .unset, .unset] [(.int p4)]))
    refine own_stW (fun _ k => XS.bipush X0.here hx rfl (hb hby at_16) k) ?_
    show own_goW _ _ _ _ _ _ _ _ _ _ (s₁.setTop (mkF m 18 #[.val (.int p0), .val (.int p1), .val (.int p2), .val (.int p3), .val (.int p4), .val (.long p5), .second, .val (.int (1 : Int32)), .unset, .unset, .unset, .unset, .unset, .unset] [(.int (8 : Int32)), (.int p4)]))
    refine own_stW (fun _ k => XS.iand X0.here hx rfl (hb hby at_18) rfl k) ?_
    show own_goW _ _ _ _ _ _ _ _ _ _ (s₁.setTop (mkF m 19 #[.val (.int p0), .val (.int p1), .val (.int p2), .val (.int p3), .val (.int p4), .val (.long p5), .second, .val (.int (1 : Int32)), .unset, .unset, .unset, .unset, .unset, .unset] [(.int (p4 &&& (8 : Int32)))]))
    by_cases hc300 : (p4 &&& (8 : Int32)) = (0 : Int32)
    · skip
      refine own_stW (fun _ k => XS.ifYes X0.here hx rfl (pc0 := 19) (pc' := 26) rfl (hb hby at_19) rfl (XT.i0_eq_t hc300) (by decide) (by decide) k) ?_
      show own_goW _ _ _ _ _ _ _ _ _ _ (s₁.setTop (mkF m 26 #[.val (.int p0), .val (.int p1), .val (.int p2), .val (.int p3), .val (.int p4), .val (.long p5), .second, .val (.int (1 : Int32)), .unset, .unset, .unset, .unset, .unset, .unset] []))
      refine own_stW (fun _ k => XS.iconst X0.here hx rfl (hb hby at_26) k) ?_
      show own_goW _ _ _ _ _ _ _ _ _ _ (s₁.setTop (mkF m 27 #[.val (.int p0), .val (.int p1), .val (.int p2), .val (.int p3), .val (.int p4), .val (.long p5), .second, .val (.int (1 : Int32)), .unset, .unset, .unset, .unset, .unset, .unset] [(.int (0 : Int32))]))
      refine own_stW (fun _ k => XS.istore X0.here hx rfl (hb hby at_27) rfl (l' := #[.val (.int p0), .val (.int p1), .val (.int p2), .val (.int p3), .val (.int p4), .val (.long p5), .second, .val (.int (1 : Int32)), .val (.int (0 : Int32)), .unset, .unset, .unset, .unset, .unset]) rfl k) ?_
      show own_goW _ _ _ _ _ _ _ _ _ _ (s₁.setTop (mkF m 29 #[.val (.int p0), .val (.int p1), .val (.int p2), .val (.int p3), .val (.int p4), .val (.long p5), .second, .val (.int (1 : Int32)), .val (.int (0 : Int32)), .unset, .unset, .unset, .unset, .unset] []))
      refine own_stW (fun _ k => XS.iload X0.here hx rfl (hb hby at_29) rfl k) ?_
      show own_goW _ _ _ _ _ _ _ _ _ _ (s₁.setTop (mkF m 31 #[.val (.int p0), .val (.int p1), .val (.int p2), .val (.int p3), .val (.int p4), .val (.long p5), .second, .val (.int (1 : Int32)), .val (.int (0 : Int32)), .unset, .unset, .unset, .unset, .unset] [(.int p4)]))
      refine own_stW (fun _ k => XS.iconst X0.here hx rfl (hb hby at_31) k) ?_
      show own_goW _ _ _ _ _ _ _ _ _ _ (s₁.setTop (mkF m 32 #[.val (.int p0), .val (.int p1), .val (.int p2), .val (.int p3), .val (.int p4), .val (.long p5), .second, .val (.int (1 : Int32)), .val (.int (0 : Int32)), .unset, .unset, .unset, .unset, .unset] [(.int (2 : Int32)), (.int p4)]))
      refine own_stW (fun _ k => XS.iand X0.here hx rfl (hb hby at_32) rfl k) ?_
      show own_goW _ _ _ _ _ _ _ _ _ _ (s₁.setTop (mkF m 33 #[.val (.int p0), .val (.int p1), .val (.int p2), .val (.int p3), .val (.int p4), .val (.long p5), .second, .val (.int (1 : Int32)), .val (.int (0 : Int32)), .unset, .unset, .unset, .unset, .unset] [(.int (p4 &&& (2 : Int32)))]))
      by_cases hc301 : (p4 &&& (2 : Int32)) = (0 : Int32)
      · skip
        refine own_stW (fun _ k => XS.ifYes X0.here hx rfl (pc0 := 33) (pc' := 40) rfl (hb hby at_33) rfl (XT.i0_eq_t hc301) (by decide) (by decide) k) ?_
        show own_goW _ _ _ _ _ _ _ _ _ _ (s₁.setTop (mkF m 40 #[.val (.int p0), .val (.int p1), .val (.int p2), .val (.int p3), .val (.int p4), .val (.long p5), .second, .val (.int (1 : Int32)), .val (.int (0 : Int32)), .unset, .unset, .unset, .unset, .unset] []))
        refine own_stW (fun _ k => XS.iloadN X0.here hx rfl (hb hby at_40) rfl k) ?_
        show own_goW _ _ _ _ _ _ _ _ _ _ (s₁.setTop (mkF m 41 #[.val (.int p0), .val (.int p1), .val (.int p2), .val (.int p3), .val (.int p4), .val (.long p5), .second, .val (.int (1 : Int32)), .val (.int (0 : Int32)), .unset, .unset, .unset, .unset, .unset] [(.int p2)]))
        refine own_stW (fun _ k => XS.istore X0.here hx rfl (hb hby at_41) rfl (l' := #[.val (.int p0), .val (.int p1), .val (.int p2), .val (.int p3), .val (.int p4), .val (.long p5), .second, .val (.int (1 : Int32)), .val (.int (0 : Int32)), .val (.int p2), .unset, .unset, .unset, .unset]) rfl k) ?_
        show own_goW _ _ _ _ _ _ _ _ _ _ (s₁.setTop (mkF m 43 #[.val (.int p0), .val (.int p1), .val (.int p2), .val (.int p3), .val (.int p4), .val (.long p5), .second, .val (.int (1 : Int32)), .val (.int (0 : Int32)), .val (.int p2), .unset, .unset, .unset, .unset] []))
        refine own_stW (fun _ k => XS.iload X0.here hx rfl (hb hby at_43) rfl k) ?_
        show own_goW _ _ _ _ _ _ _ _ _ _ (s₁.setTop (mkF m 45 #[.val (.int p0), .val (.int p1), .val (.int p2), .val (.int p3), .val (.int p4), .val (.long p5), .second, .val (.int (1 : Int32)), .val (.int (0 : Int32)), .val (.int p2), .unset, .unset, .unset, .unset] [(.int p4)]))
        refine own_stW (fun _ k => XS.iconst X0.here hx rfl (hb hby at_45) k) ?_
        show own_goW _ _ _ _ _ _ _ _ _ _ (s₁.setTop (mkF m 46 #[.val (.int p0), .val (.int p1), .val (.int p2), .val (.int p3), .val (.int p4), .val (.long p5), .second, .val (.int (1 : Int32)), .val (.int (0 : Int32)), .val (.int p2), .unset, .unset, .unset, .unset] [(.int (4 : Int32)), (.int p4)]))
        refine own_stW (fun _ k => XS.iand X0.here hx rfl (hb hby at_46) rfl k) ?_
        show own_goW _ _ _ _ _ _ _ _ _ _ (s₁.setTop (mkF m 47 #[.val (.int p0), .val (.int p1), .val (.int p2), .val (.int p3), .val (.int p4), .val (.long p5), .second, .val (.int (1 : Int32)), .val (.int (0 : Int32)), .val (.int p2), .unset, .unset, .unset, .unset] [(.int (p4 &&& (4 : Int32)))]))
        by_cases hc302 : (p4 &&& (4 : Int32)) = (0 : Int32)
        · skip
          refine own_stW (fun _ k => XS.ifYes X0.here hx rfl (pc0 := 47) (pc' := 54) rfl (hb hby at_47) rfl (XT.i0_eq_t hc302) (by decide) (by decide) k) ?_
          show own_goW _ _ _ _ _ _ _ _ _ _ (s₁.setTop (mkF m 54 #[.val (.int p0), .val (.int p1), .val (.int p2), .val (.int p3), .val (.int p4), .val (.long p5), .second, .val (.int (1 : Int32)), .val (.int (0 : Int32)), .val (.int p2), .unset, .unset, .unset, .unset] []))
          refine own_stW (fun _ k => XS.iloadN X0.here hx rfl (hb hby at_54) rfl k) ?_
          show own_goW _ _ _ _ _ _ _ _ _ _ (s₁.setTop (mkF m 55 #[.val (.int p0), .val (.int p1), .val (.int p2), .val (.int p3), .val (.int p4), .val (.long p5), .second, .val (.int (1 : Int32)), .val (.int (0 : Int32)), .val (.int p2), .unset, .unset, .unset, .unset] [(.int p3)]))
          refine own_stW (fun _ k => XS.istore X0.here hx rfl (hb hby at_55) rfl (l' := #[.val (.int p0), .val (.int p1), .val (.int p2), .val (.int p3), .val (.int p4), .val (.long p5), .second, .val (.int (1 : Int32)), .val (.int (0 : Int32)), .val (.int p2), .val (.int p3), .unset, .unset, .unset]) rfl k) ?_
          show own_goW _ _ _ _ _ _ _ _ _ _ (s₁.setTop (mkF m 57 #[.val (.int p0), .val (.int p1), .val (.int p2), .val (.int p3), .val (.int p4), .val (.long p5), .second, .val (.int (1 : Int32)), .val (.int (0 : Int32)), .val (.int p2), .val (.int p3), .unset, .unset, .unset] []))
          exact tail (1 : Int32) (0 : Int32) p2 p3 (by decide) (by decide)
        · skip
          refine own_stW (fun _ k => XS.ifNo X0.here hx rfl (hb hby at_47) rfl (XT.i0_eq_f hc302) k) ?_
          show own_goW _ _ _ _ _ _ _ _ _ _ (s₁.setTop (mkF m 50 #[.val (.int p0), .val (.int p1), .val (.int p2), .val (.int p3), .val (.int p4), .val (.long p5), .second, .val (.int (1 : Int32)), .val (.int (0 : Int32)), .val (.int p2), .unset, .unset, .unset, .unset] []))
          refine own_stW (fun _ k => XS.iloadN X0.here hx rfl (hb hby at_50) rfl k) ?_
          show own_goW _ _ _ _ _ _ _ _ _ _ (s₁.setTop (mkF m 51 #[.val (.int p0), .val (.int p1), .val (.int p2), .val (.int p3), .val (.int p4), .val (.long p5), .second, .val (.int (1 : Int32)), .val (.int (0 : Int32)), .val (.int p2), .unset, .unset, .unset, .unset] [(.int p1)]))
          refine own_stW (fun _ k => XS.goto X0.here hx rfl (pc0 := 51) (pc' := 55) rfl (hb hby at_51) (by decide) (by decide) k) ?_
          show own_goW _ _ _ _ _ _ _ _ _ _ (s₁.setTop (mkF m 55 #[.val (.int p0), .val (.int p1), .val (.int p2), .val (.int p3), .val (.int p4), .val (.long p5), .second, .val (.int (1 : Int32)), .val (.int (0 : Int32)), .val (.int p2), .unset, .unset, .unset, .unset] [(.int p1)]))
          refine own_stW (fun _ k => XS.istore X0.here hx rfl (hb hby at_55) rfl (l' := #[.val (.int p0), .val (.int p1), .val (.int p2), .val (.int p3), .val (.int p4), .val (.long p5), .second, .val (.int (1 : Int32)), .val (.int (0 : Int32)), .val (.int p2), .val (.int p1), .unset, .unset, .unset]) rfl k) ?_
          show own_goW _ _ _ _ _ _ _ _ _ _ (s₁.setTop (mkF m 57 #[.val (.int p0), .val (.int p1), .val (.int p2), .val (.int p3), .val (.int p4), .val (.long p5), .second, .val (.int (1 : Int32)), .val (.int (0 : Int32)), .val (.int p2), .val (.int p1), .unset, .unset, .unset] []))
          exact tail (1 : Int32) (0 : Int32) p2 p1 (by decide) (by decide)
      · skip
        refine own_stW (fun _ k => XS.ifNo X0.here hx rfl (hb hby at_33) rfl (XT.i0_eq_f hc301) k) ?_
        show own_goW _ _ _ _ _ _ _ _ _ _ (s₁.setTop (mkF m 36 #[.val (.int p0), .val (.int p1), .val (.int p2), .val (.int p3), .val (.int p4), .val (.long p5), .second, .val (.int (1 : Int32)), .val (.int (0 : Int32)), .unset, .unset, .unset, .unset, .unset] []))
        refine own_stW (fun _ k => XS.iloadN X0.here hx rfl (hb hby at_36) rfl k) ?_
        show own_goW _ _ _ _ _ _ _ _ _ _ (s₁.setTop (mkF m 37 #[.val (.int p0), .val (.int p1), .val (.int p2), .val (.int p3), .val (.int p4), .val (.long p5), .second, .val (.int (1 : Int32)), .val (.int (0 : Int32)), .unset, .unset, .unset, .unset, .unset] [(.int p0)]))
        refine own_stW (fun _ k => XS.goto X0.here hx rfl (pc0 := 37) (pc' := 41) rfl (hb hby at_37) (by decide) (by decide) k) ?_
        show own_goW _ _ _ _ _ _ _ _ _ _ (s₁.setTop (mkF m 41 #[.val (.int p0), .val (.int p1), .val (.int p2), .val (.int p3), .val (.int p4), .val (.long p5), .second, .val (.int (1 : Int32)), .val (.int (0 : Int32)), .unset, .unset, .unset, .unset, .unset] [(.int p0)]))
        refine own_stW (fun _ k => XS.istore X0.here hx rfl (hb hby at_41) rfl (l' := #[.val (.int p0), .val (.int p1), .val (.int p2), .val (.int p3), .val (.int p4), .val (.long p5), .second, .val (.int (1 : Int32)), .val (.int (0 : Int32)), .val (.int p0), .unset, .unset, .unset, .unset]) rfl k) ?_
        show own_goW _ _ _ _ _ _ _ _ _ _ (s₁.setTop (mkF m 43 #[.val (.int p0), .val (.int p1), .val (.int p2), .val (.int p3), .val (.int p4), .val (.long p5), .second, .val (.int (1 : Int32)), .val (.int (0 : Int32)), .val (.int p0), .unset, .unset, .unset, .unset] []))
        refine own_stW (fun _ k => XS.iload X0.here hx rfl (hb hby at_43) rfl k) ?_
        show own_goW _ _ _ _ _ _ _ _ _ _ (s₁.setTop (mkF m 45 #[.val (.int p0), .val (.int p1), .val (.int p2), .val (.int p3), .val (.int p4), .val (.long p5), .second, .val (.int (1 : Int32)), .val (.int (0 : Int32)), .val (.int p0), .unset, .unset, .unset, .unset] [(.int p4)]))
        refine own_stW (fun _ k => XS.iconst X0.here hx rfl (hb hby at_45) k) ?_
        show own_goW _ _ _ _ _ _ _ _ _ _ (s₁.setTop (mkF m 46 #[.val (.int p0), .val (.int p1), .val (.int p2), .val (.int p3), .val (.int p4), .val (.long p5), .second, .val (.int (1 : Int32)), .val (.int (0 : Int32)), .val (.int p0), .unset, .unset, .unset, .unset] [(.int (4 : Int32)), (.int p4)]))
        refine own_stW (fun _ k => XS.iand X0.here hx rfl (hb hby at_46) rfl k) ?_
        show own_goW _ _ _ _ _ _ _ _ _ _ (s₁.setTop (mkF m 47 #[.val (.int p0), .val (.int p1), .val (.int p2), .val (.int p3), .val (.int p4), .val (.long p5), .second, .val (.int (1 : Int32)), .val (.int (0 : Int32)), .val (.int p0), .unset, .unset, .unset, .unset] [(.int (p4 &&& (4 : Int32)))]))
        by_cases hc303 : (p4 &&& (4 : Int32)) = (0 : Int32)
        · skip
          refine own_stW (fun _ k => XS.ifYes X0.here hx rfl (pc0 := 47) (pc' := 54) rfl (hb hby at_47) rfl (XT.i0_eq_t hc303) (by decide) (by decide) k) ?_
          show own_goW _ _ _ _ _ _ _ _ _ _ (s₁.setTop (mkF m 54 #[.val (.int p0), .val (.int p1), .val (.int p2), .val (.int p3), .val (.int p4), .val (.long p5), .second, .val (.int (1 : Int32)), .val (.int (0 : Int32)), .val (.int p0), .unset, .unset, .unset, .unset] []))
          refine own_stW (fun _ k => XS.iloadN X0.here hx rfl (hb hby at_54) rfl k) ?_
          show own_goW _ _ _ _ _ _ _ _ _ _ (s₁.setTop (mkF m 55 #[.val (.int p0), .val (.int p1), .val (.int p2), .val (.int p3), .val (.int p4), .val (.long p5), .second, .val (.int (1 : Int32)), .val (.int (0 : Int32)), .val (.int p0), .unset, .unset, .unset, .unset] [(.int p3)]))
          refine own_stW (fun _ k => XS.istore X0.here hx rfl (hb hby at_55) rfl (l' := #[.val (.int p0), .val (.int p1), .val (.int p2), .val (.int p3), .val (.int p4), .val (.long p5), .second, .val (.int (1 : Int32)), .val (.int (0 : Int32)), .val (.int p0), .val (.int p3), .unset, .unset, .unset]) rfl k) ?_
          show own_goW _ _ _ _ _ _ _ _ _ _ (s₁.setTop (mkF m 57 #[.val (.int p0), .val (.int p1), .val (.int p2), .val (.int p3), .val (.int p4), .val (.long p5), .second, .val (.int (1 : Int32)), .val (.int (0 : Int32)), .val (.int p0), .val (.int p3), .unset, .unset, .unset] []))
          exact tail (1 : Int32) (0 : Int32) p0 p3 (by decide) (by decide)
        · skip
          refine own_stW (fun _ k => XS.ifNo X0.here hx rfl (hb hby at_47) rfl (XT.i0_eq_f hc303) k) ?_
          show own_goW _ _ _ _ _ _ _ _ _ _ (s₁.setTop (mkF m 50 #[.val (.int p0), .val (.int p1), .val (.int p2), .val (.int p3), .val (.int p4), .val (.long p5), .second, .val (.int (1 : Int32)), .val (.int (0 : Int32)), .val (.int p0), .unset, .unset, .unset, .unset] []))
          refine own_stW (fun _ k => XS.iloadN X0.here hx rfl (hb hby at_50) rfl k) ?_
          show own_goW _ _ _ _ _ _ _ _ _ _ (s₁.setTop (mkF m 51 #[.val (.int p0), .val (.int p1), .val (.int p2), .val (.int p3), .val (.int p4), .val (.long p5), .second, .val (.int (1 : Int32)), .val (.int (0 : Int32)), .val (.int p0), .unset, .unset, .unset, .unset] [(.int p1)]))
          refine own_stW (fun _ k => XS.goto X0.here hx rfl (pc0 := 51) (pc' := 55) rfl (hb hby at_51) (by decide) (by decide) k) ?_
          show own_goW _ _ _ _ _ _ _ _ _ _ (s₁.setTop (mkF m 55 #[.val (.int p0), .val (.int p1), .val (.int p2), .val (.int p3), .val (.int p4), .val (.long p5), .second, .val (.int (1 : Int32)), .val (.int (0 : Int32)), .val (.int p0), .unset, .unset, .unset, .unset] [(.int p1)]))
          refine own_stW (fun _ k => XS.istore X0.here hx rfl (hb hby at_55) rfl (l' := #[.val (.int p0), .val (.int p1), .val (.int p2), .val (.int p3), .val (.int p4), .val (.long p5), .second, .val (.int (1 : Int32)), .val (.int (0 : Int32)), .val (.int p0), .val (.int p1), .unset, .unset, .unset]) rfl k) ?_
          show own_goW _ _ _ _ _ _ _ _ _ _ (s₁.setTop (mkF m 57 #[.val (.int p0), .val (.int p1), .val (.int p2), .val (.int p3), .val (.int p4), .val (.long p5), .second, .val (.int (1 : Int32)), .val (.int (0 : Int32)), .val (.int p0), .val (.int p1), .unset, .unset, .unset] []))
          exact tail (1 : Int32) (0 : Int32) p0 p1 (by decide) (by decide)
    · skip
      refine own_stW (fun _ k => XS.ifNo X0.here hx rfl (hb hby at_19) rfl (XT.i0_eq_f hc300) k) ?_
      show own_goW _ _ _ _ _ _ _ _ _ _ (s₁.setTop (mkF m 22 #[.val (.int p0), .val (.int p1), .val (.int p2), .val (.int p3), .val (.int p4), .val (.long p5), .second, .val (.int (1 : Int32)), .unset, .unset, .unset, .unset, .unset, .unset] []))
      refine own_stW (fun _ k => XS.iconst X0.here hx rfl (hb hby at_22) k) ?_
      show own_goW _ _ _ _ _ _ _ _ _ _ (s₁.setTop (mkF m 23 #[.val (.int p0), .val (.int p1), .val (.int p2), .val (.int p3), .val (.int p4), .val (.long p5), .second, .val (.int (1 : Int32)), .unset, .unset, .unset, .unset, .unset, .unset] [(.int (1 : Int32))]))
      refine own_stW (fun _ k => XS.goto X0.here hx rfl (pc0 := 23) (pc' := 27) rfl (hb hby at_23) (by decide) (by decide) k) ?_
      show own_goW _ _ _ _ _ _ _ _ _ _ (s₁.setTop (mkF m 27 #[.val (.int p0), .val (.int p1), .val (.int p2), .val (.int p3), .val (.int p4), .val (.long p5), .second, .val (.int (1 : Int32)), .unset, .unset, .unset, .unset, .unset, .unset] [(.int (1 : Int32))]))
      refine own_stW (fun _ k => XS.istore X0.here hx rfl (hb hby at_27) rfl (l' := #[.val (.int p0), .val (.int p1), .val (.int p2), .val (.int p3), .val (.int p4), .val (.long p5), .second, .val (.int (1 : Int32)), .val (.int (1 : Int32)), .unset, .unset, .unset, .unset, .unset]) rfl k) ?_
      show own_goW _ _ _ _ _ _ _ _ _ _ (s₁.setTop (mkF m 29 #[.val (.int p0), .val (.int p1), .val (.int p2), .val (.int p3), .val (.int p4), .val (.long p5), .second, .val (.int (1 : Int32)), .val (.int (1 : Int32)), .unset, .unset, .unset, .unset, .unset] []))
      refine own_stW (fun _ k => XS.iload X0.here hx rfl (hb hby at_29) rfl k) ?_
      show own_goW _ _ _ _ _ _ _ _ _ _ (s₁.setTop (mkF m 31 #[.val (.int p0), .val (.int p1), .val (.int p2), .val (.int p3), .val (.int p4), .val (.long p5), .second, .val (.int (1 : Int32)), .val (.int (1 : Int32)), .unset, .unset, .unset, .unset, .unset] [(.int p4)]))
      refine own_stW (fun _ k => XS.iconst X0.here hx rfl (hb hby at_31) k) ?_
      show own_goW _ _ _ _ _ _ _ _ _ _ (s₁.setTop (mkF m 32 #[.val (.int p0), .val (.int p1), .val (.int p2), .val (.int p3), .val (.int p4), .val (.long p5), .second, .val (.int (1 : Int32)), .val (.int (1 : Int32)), .unset, .unset, .unset, .unset, .unset] [(.int (2 : Int32)), (.int p4)]))
      refine own_stW (fun _ k => XS.iand X0.here hx rfl (hb hby at_32) rfl k) ?_
      show own_goW _ _ _ _ _ _ _ _ _ _ (s₁.setTop (mkF m 33 #[.val (.int p0), .val (.int p1), .val (.int p2), .val (.int p3), .val (.int p4), .val (.long p5), .second, .val (.int (1 : Int32)), .val (.int (1 : Int32)), .unset, .unset, .unset, .unset, .unset] [(.int (p4 &&& (2 : Int32)))]))
      by_cases hc304 : (p4 &&& (2 : Int32)) = (0 : Int32)
      · skip
        refine own_stW (fun _ k => XS.ifYes X0.here hx rfl (pc0 := 33) (pc' := 40) rfl (hb hby at_33) rfl (XT.i0_eq_t hc304) (by decide) (by decide) k) ?_
        show own_goW _ _ _ _ _ _ _ _ _ _ (s₁.setTop (mkF m 40 #[.val (.int p0), .val (.int p1), .val (.int p2), .val (.int p3), .val (.int p4), .val (.long p5), .second, .val (.int (1 : Int32)), .val (.int (1 : Int32)), .unset, .unset, .unset, .unset, .unset] []))
        refine own_stW (fun _ k => XS.iloadN X0.here hx rfl (hb hby at_40) rfl k) ?_
        show own_goW _ _ _ _ _ _ _ _ _ _ (s₁.setTop (mkF m 41 #[.val (.int p0), .val (.int p1), .val (.int p2), .val (.int p3), .val (.int p4), .val (.long p5), .second, .val (.int (1 : Int32)), .val (.int (1 : Int32)), .unset, .unset, .unset, .unset, .unset] [(.int p2)]))
        refine own_stW (fun _ k => XS.istore X0.here hx rfl (hb hby at_41) rfl (l' := #[.val (.int p0), .val (.int p1), .val (.int p2), .val (.int p3), .val (.int p4), .val (.long p5), .second, .val (.int (1 : Int32)), .val (.int (1 : Int32)), .val (.int p2), .unset, .unset, .unset, .unset]) rfl k) ?_
        show own_goW _ _ _ _ _ _ _ _ _ _ (s₁.setTop (mkF m 43 #[.val (.int p0), .val (.int p1), .val (.int p2), .val (.int p3), .val (.int p4), .val (.long p5), .second, .val (.int (1 : Int32)), .val (.int (1 : Int32)), .val (.int p2), .unset, .unset, .unset, .unset] []))
        refine own_stW (fun _ k => XS.iload X0.here hx rfl (hb hby at_43) rfl k) ?_
        show own_goW _ _ _ _ _ _ _ _ _ _ (s₁.setTop (mkF m 45 #[.val (.int p0), .val (.int p1), .val (.int p2), .val (.int p3), .val (.int p4), .val (.long p5), .second, .val (.int (1 : Int32)), .val (.int (1 : Int32)), .val (.int p2), .unset, .unset, .unset, .unset] [(.int p4)]))
        refine own_stW (fun _ k => XS.iconst X0.here hx rfl (hb hby at_45) k) ?_
        show own_goW _ _ _ _ _ _ _ _ _ _ (s₁.setTop (mkF m 46 #[.val (.int p0), .val (.int p1), .val (.int p2), .val (.int p3), .val (.int p4), .val (.long p5), .second, .val (.int (1 : Int32)), .val (.int (1 : Int32)), .val (.int p2), .unset, .unset, .unset, .unset] [(.int (4 : Int32)), (.int p4)]))
        refine own_stW (fun _ k => XS.iand X0.here hx rfl (hb hby at_46) rfl k) ?_
        show own_goW _ _ _ _ _ _ _ _ _ _ (s₁.setTop (mkF m 47 #[.val (.int p0), .val (.int p1), .val (.int p2), .val (.int p3), .val (.int p4), .val (.long p5), .second, .val (.int (1 : Int32)), .val (.int (1 : Int32)), .val (.int p2), .unset, .unset, .unset, .unset] [(.int (p4 &&& (4 : Int32)))]))
        by_cases hc305 : (p4 &&& (4 : Int32)) = (0 : Int32)
        · skip
          refine own_stW (fun _ k => XS.ifYes X0.here hx rfl (pc0 := 47) (pc' := 54) rfl (hb hby at_47) rfl (XT.i0_eq_t hc305) (by decide) (by decide) k) ?_
          show own_goW _ _ _ _ _ _ _ _ _ _ (s₁.setTop (mkF m 54 #[.val (.int p0), .val (.int p1), .val (.int p2), .val (.int p3), .val (.int p4), .val (.long p5), .second, .val (.int (1 : Int32)), .val (.int (1 : Int32)), .val (.int p2), .unset, .unset, .unset, .unset] []))
          refine own_stW (fun _ k => XS.iloadN X0.here hx rfl (hb hby at_54) rfl k) ?_
          show own_goW _ _ _ _ _ _ _ _ _ _ (s₁.setTop (mkF m 55 #[.val (.int p0), .val (.int p1), .val (.int p2), .val (.int p3), .val (.int p4), .val (.long p5), .second, .val (.int (1 : Int32)), .val (.int (1 : Int32)), .val (.int p2), .unset, .unset, .unset, .unset] [(.int p3)]))
          refine own_stW (fun _ k => XS.istore X0.here hx rfl (hb hby at_55) rfl (l' := #[.val (.int p0), .val (.int p1), .val (.int p2), .val (.int p3), .val (.int p4), .val (.long p5), .second, .val (.int (1 : Int32)), .val (.int (1 : Int32)), .val (.int p2), .val (.int p3), .unset, .unset, .unset]) rfl k) ?_
          show own_goW _ _ _ _ _ _ _ _ _ _ (s₁.setTop (mkF m 57 #[.val (.int p0), .val (.int p1), .val (.int p2), .val (.int p3), .val (.int p4), .val (.long p5), .second, .val (.int (1 : Int32)), .val (.int (1 : Int32)), .val (.int p2), .val (.int p3), .unset, .unset, .unset] []))
          exact tail (1 : Int32) (1 : Int32) p2 p3 (by decide) (by decide)
        · skip
          refine own_stW (fun _ k => XS.ifNo X0.here hx rfl (hb hby at_47) rfl (XT.i0_eq_f hc305) k) ?_
          show own_goW _ _ _ _ _ _ _ _ _ _ (s₁.setTop (mkF m 50 #[.val (.int p0), .val (.int p1), .val (.int p2), .val (.int p3), .val (.int p4), .val (.long p5), .second, .val (.int (1 : Int32)), .val (.int (1 : Int32)), .val (.int p2), .unset, .unset, .unset, .unset] []))
          refine own_stW (fun _ k => XS.iloadN X0.here hx rfl (hb hby at_50) rfl k) ?_
          show own_goW _ _ _ _ _ _ _ _ _ _ (s₁.setTop (mkF m 51 #[.val (.int p0), .val (.int p1), .val (.int p2), .val (.int p3), .val (.int p4), .val (.long p5), .second, .val (.int (1 : Int32)), .val (.int (1 : Int32)), .val (.int p2), .unset, .unset, .unset, .unset] [(.int p1)]))
          refine own_stW (fun _ k => XS.goto X0.here hx rfl (pc0 := 51) (pc' := 55) rfl (hb hby at_51) (by decide) (by decide) k) ?_
          show own_goW _ _ _ _ _ _ _ _ _ _ (s₁.setTop (mkF m 55 #[.val (.int p0), .val (.int p1), .val (.int p2), .val (.int p3), .val (.int p4), .val (.long p5), .second, .val (.int (1 : Int32)), .val (.int (1 : Int32)), .val (.int p2), .unset, .unset, .unset, .unset] [(.int p1)]))
          refine own_stW (fun _ k => XS.istore X0.here hx rfl (hb hby at_55) rfl (l' := #[.val (.int p0), .val (.int p1), .val (.int p2), .val (.int p3), .val (.int p4), .val (.long p5), .second, .val (.int (1 : Int32)), .val (.int (1 : Int32)), .val (.int p2), .val (.int p1), .unset, .unset, .unset]) rfl k) ?_
          show own_goW _ _ _ _ _ _ _ _ _ _ (s₁.setTop (mkF m 57 #[.val (.int p0), .val (.int p1), .val (.int p2), .val (.int p3), .val (.int p4), .val (.long p5), .second, .val (.int (1 : Int32)), .val (.int (1 : Int32)), .val (.int p2), .val (.int p1), .unset, .unset, .unset] []))
          exact tail (1 : Int32) (1 : Int32) p2 p1 (by decide) (by decide)
      · skip
        refine own_stW (fun _ k => XS.ifNo X0.here hx rfl (hb hby at_33) rfl (XT.i0_eq_f hc304) k) ?_
        show own_goW _ _ _ _ _ _ _ _ _ _ (s₁.setTop (mkF m 36 #[.val (.int p0), .val (.int p1), .val (.int p2), .val (.int p3), .val (.int p4), .val (.long p5), .second, .val (.int (1 : Int32)), .val (.int (1 : Int32)), .unset, .unset, .unset, .unset, .unset] []))
        refine own_stW (fun _ k => XS.iloadN X0.here hx rfl (hb hby at_36) rfl k) ?_
        show own_goW _ _ _ _ _ _ _ _ _ _ (s₁.setTop (mkF m 37 #[.val (.int p0), .val (.int p1), .val (.int p2), .val (.int p3), .val (.int p4), .val (.long p5), .second, .val (.int (1 : Int32)), .val (.int (1 : Int32)), .unset, .unset, .unset, .unset, .unset] [(.int p0)]))
        refine own_stW (fun _ k => XS.goto X0.here hx rfl (pc0 := 37) (pc' := 41) rfl (hb hby at_37) (by decide) (by decide) k) ?_
        show own_goW _ _ _ _ _ _ _ _ _ _ (s₁.setTop (mkF m 41 #[.val (.int p0), .val (.int p1), .val (.int p2), .val (.int p3), .val (.int p4), .val (.long p5), .second, .val (.int (1 : Int32)), .val (.int (1 : Int32)), .unset, .unset, .unset, .unset, .unset] [(.int p0)]))
        refine own_stW (fun _ k => XS.istore X0.here hx rfl (hb hby at_41) rfl (l' := #[.val (.int p0), .val (.int p1), .val (.int p2), .val (.int p3), .val (.int p4), .val (.long p5), .second, .val (.int (1 : Int32)), .val (.int (1 : Int32)), .val (.int p0), .unset, .unset, .unset, .unset]) rfl k) ?_
        show own_goW _ _ _ _ _ _ _ _ _ _ (s₁.setTop (mkF m 43 #[.val (.int p0), .val (.int p1), .val (.int p2), .val (.int p3), .val (.int p4), .val (.long p5), .second, .val (.int (1 : Int32)), .val (.int (1 : Int32)), .val (.int p0), .unset, .unset, .unset, .unset] []))
        refine own_stW (fun _ k => XS.iload X0.here hx rfl (hb hby at_43) rfl k) ?_
        show own_goW _ _ _ _ _ _ _ _ _ _ (s₁.setTop (mkF m 45 #[.val (.int p0), .val (.int p1), .val (.int p2), .val (.int p3), .val (.int p4), .val (.long p5), .second, .val (.int (1 : Int32)), .val (.int (1 : Int32)), .val (.int p0), .unset, .unset, .unset, .unset] [(.int p4)]))
        refine own_stW (fun _ k => XS.iconst X0.here hx rfl (hb hby at_45) k) ?_
        show own_goW _ _ _ _ _ _ _ _ _ _ (s₁.setTop (mkF m 46 #[.val (.int p0), .val (.int p1), .val (.int p2), .val (.int p3), .val (.int p4), .val (.long p5), .second, .val (.int (1 : Int32)), .val (.int (1 : Int32)), .val (.int p0), .unset, .unset, .unset, .unset] [(.int (4 : Int32)), (.int p4)]))
        refine own_stW (fun _ k => XS.iand X0.here hx rfl (hb hby at_46) rfl k) ?_
        show own_goW _ _ _ _ _ _ _ _ _ _ (s₁.setTop (mkF m 47 #[.val (.int p0), .val (.int p1), .val (.int p2), .val (.int p3), .val (.int p4), .val (.long p5), .second, .val (.int (1 : Int32)), .val (.int (1 : Int32)), .val (.int p0), .unset, .unset, .unset, .unset] [(.int (p4 &&& (4 : Int32)))]))
        by_cases hc306 : (p4 &&& (4 : Int32)) = (0 : Int32)
        · skip
          refine own_stW (fun _ k => XS.ifYes X0.here hx rfl (pc0 := 47) (pc' := 54) rfl (hb hby at_47) rfl (XT.i0_eq_t hc306) (by decide) (by decide) k) ?_
          show own_goW _ _ _ _ _ _ _ _ _ _ (s₁.setTop (mkF m 54 #[.val (.int p0), .val (.int p1), .val (.int p2), .val (.int p3), .val (.int p4), .val (.long p5), .second, .val (.int (1 : Int32)), .val (.int (1 : Int32)), .val (.int p0), .unset, .unset, .unset, .unset] []))
          refine own_stW (fun _ k => XS.iloadN X0.here hx rfl (hb hby at_54) rfl k) ?_
          show own_goW _ _ _ _ _ _ _ _ _ _ (s₁.setTop (mkF m 55 #[.val (.int p0), .val (.int p1), .val (.int p2), .val (.int p3), .val (.int p4), .val (.long p5), .second, .val (.int (1 : Int32)), .val (.int (1 : Int32)), .val (.int p0), .unset, .unset, .unset, .unset] [(.int p3)]))
          refine own_stW (fun _ k => XS.istore X0.here hx rfl (hb hby at_55) rfl (l' := #[.val (.int p0), .val (.int p1), .val (.int p2), .val (.int p3), .val (.int p4), .val (.long p5), .second, .val (.int (1 : Int32)), .val (.int (1 : Int32)), .val (.int p0), .val (.int p3), .unset, .unset, .unset]) rfl k) ?_
          show own_goW _ _ _ _ _ _ _ _ _ _ (s₁.setTop (mkF m 57 #[.val (.int p0), .val (.int p1), .val (.int p2), .val (.int p3), .val (.int p4), .val (.long p5), .second, .val (.int (1 : Int32)), .val (.int (1 : Int32)), .val (.int p0), .val (.int p3), .unset, .unset, .unset] []))
          exact tail (1 : Int32) (1 : Int32) p0 p3 (by decide) (by decide)
        · skip
          refine own_stW (fun _ k => XS.ifNo X0.here hx rfl (hb hby at_47) rfl (XT.i0_eq_f hc306) k) ?_
          show own_goW _ _ _ _ _ _ _ _ _ _ (s₁.setTop (mkF m 50 #[.val (.int p0), .val (.int p1), .val (.int p2), .val (.int p3), .val (.int p4), .val (.long p5), .second, .val (.int (1 : Int32)), .val (.int (1 : Int32)), .val (.int p0), .unset, .unset, .unset, .unset] []))
          refine own_stW (fun _ k => XS.iloadN X0.here hx rfl (hb hby at_50) rfl k) ?_
          show own_goW _ _ _ _ _ _ _ _ _ _ (s₁.setTop (mkF m 51 #[.val (.int p0), .val (.int p1), .val (.int p2), .val (.int p3), .val (.int p4), .val (.long p5), .second, .val (.int (1 : Int32)), .val (.int (1 : Int32)), .val (.int p0), .unset, .unset, .unset, .unset] [(.int p1)]))
          refine own_stW (fun _ k => XS.goto X0.here hx rfl (pc0 := 51) (pc' := 55) rfl (hb hby at_51) (by decide) (by decide) k) ?_
          show own_goW _ _ _ _ _ _ _ _ _ _ (s₁.setTop (mkF m 55 #[.val (.int p0), .val (.int p1), .val (.int p2), .val (.int p3), .val (.int p4), .val (.long p5), .second, .val (.int (1 : Int32)), .val (.int (1 : Int32)), .val (.int p0), .unset, .unset, .unset, .unset] [(.int p1)]))
          refine own_stW (fun _ k => XS.istore X0.here hx rfl (hb hby at_55) rfl (l' := #[.val (.int p0), .val (.int p1), .val (.int p2), .val (.int p3), .val (.int p4), .val (.long p5), .second, .val (.int (1 : Int32)), .val (.int (1 : Int32)), .val (.int p0), .val (.int p1), .unset, .unset, .unset]) rfl k) ?_
          show own_goW _ _ _ _ _ _ _ _ _ _ (s₁.setTop (mkF m 57 #[.val (.int p0), .val (.int p1), .val (.int p2), .val (.int p3), .val (.int p4), .val (.long p5), .second, .val (.int (1 : Int32)), .val (.int (1 : Int32)), .val (.int p0), .val (.int p1), .unset, .unset, .unset] []))
          exact tail (1 : Int32) (1 : Int32) p0 p1 (by decide) (by decide)
set_option maxRecDepth 65536 in
set_option maxHeartbeats 40000000 in
theorem comes_1 {Post : Tables → Env → Array Value → State → Outcome → State → Prop} (hpost : ∀ tb e args s v u, (limb_1_1.after args s (.returned v) u = true ∧ limb_1_2.after args s (.returned v) u = true ∧ True) → ReturnedEndW s (.returned v) u (Jvm.fieldLocs frame_1_writes args s ++ Jvm.arrayLocs frame_1_arrays args s ++ Jvm.staticLocs frame_1_statics s) 40 1216 → Post tb e args s (.returned v) u) :
    ArmFor flags0 classFile x code maxLocals ret World_1 tables_1 room_1 Calls_1 rest_1 Pre_1 Post := by
  intro l hfl _ _ p e ha hc hk s m args below hf hA hF happ hP
  obtain ⟨hcalls, hrest, hpre⟩ := hP
  obtain ⟨-, -, -, hnamed, -, -, -, hat⟩ := (Spec.applies_iff hf).mp happ
  obtain ⟨hg, hn⟩ := and_e (Cond.before_iff.mp (show (Jvm.Cond.and given_1 narrow_1).before args s = true from hpre))
  obtain ⟨h1, hg0⟩ := and_e hg
  obtain ⟨w0, w1, w2, w3, w4, w5, rfl⟩ : ∃ w0 w1 w2 w3 w4 w5 : Value, args = #[w0, w1, w2, w3, w4, w5] := by
    have hs : args.size = 6 := by simpa [Cond.value, given_1] using h1
    obtain ⟨L⟩ := args
    match L, hs with
    | [w0, w1, w2, w3, w4, w5], _ => exact ⟨w0, w1, w2, w3, w4, w5, rfl⟩
  have hw := fun d (hd : d ∈ tables_1) => atoms_spec (ws := Jvm.Cond.code x code maxLocals ret :: tables_1) hat d (List.mem_cons_of_mem _ hd)
  obtain ⟨ha0, hg1⟩ := and_e hg0
  obtain ⟨i0, e0⟩ := is_v ha0
  obtain rfl : w0 = (.int i0) := Option.some.inj e0
  obtain ⟨ha1, hg2⟩ := and_e hg1
  obtain ⟨i1, e1⟩ := is_v ha1
  obtain rfl : w1 = (.int i1) := Option.some.inj e1
  obtain ⟨ha2, hg3⟩ := and_e hg2
  obtain ⟨i2, e2⟩ := is_v ha2
  obtain rfl : w2 = (.int i2) := Option.some.inj e2
  obtain ⟨ha3, hg4⟩ := and_e hg3
  obtain ⟨i3, e3⟩ := is_v ha3
  obtain rfl : w3 = (.int i3) := Option.some.inj e3
  obtain ⟨ha4, hg5⟩ := and_e hg4
  obtain ⟨i4, e4⟩ := is_v ha4
  obtain rfl : w4 = (.int i4) := Option.some.inj e4
  obtain ⟨i5, e5⟩ := isL_v hg5
  obtain rfl : w5 = (.long i5) := Option.some.inj e5
  obtain ⟨hsets, hown0⟩ := atoms_of _ (rest_1_c_eq ▸ (show rest_1_c.before _ s = true from hrest))
  have hfit : Fit s := fun {y c} hc i hi => by
    obtain ⟨ha, rfl⟩ := Array.getElem?_eq_some_iff.mp hc
    have q := List.all_eq_true.mp ((Array.all_eq_true_iff_forall_mem.mp hF) _ (Array.getElem_mem ha)) i (List.mem_range.mpr hi)
    simpa [Array.getElem?_eq_getElem hi] using q
  have n1 := hn
  have m1 := Cond.before_iff.mp (hsets _ (List.mem_of_getElem? (i := 1) rfl))
  obtain ⟨z_COMPACT_STRINGS, v_z_COMPACT_STRINGS⟩ := is_v m1
  have S_z_COMPACT_STRINGS := Sta.start v_z_COMPACT_STRINGS (Or.inl (hsets _ (List.mem_of_getElem? (i := 0) rfl)))
  have m2 := Cond.before_iff.mp (hsets _ (List.mem_of_getElem? (i := 2) rfl))
  have nz_z_COMPACT_STRINGS := own_nz v_z_COMPACT_STRINGS m2
  have m8 := Cond.before_iff.mp (hsets _ (List.mem_of_getElem? (i := 8) rfl))
  have hS : own_S s z_COMPACT_STRINGS := ⟨S_z_COMPACT_STRINGS, nz_z_COMPACT_STRINGS⟩

  have hCH : CHv s consts_1 s.vm s.heap := CHv.start (own_EW hw) (fun p hp => hcalls.1 p hp) (show Jvm.Lit.compactW.before _ s = true from hsets _ (List.mem_of_getElem? (i := 2) rfl)) (hw _ (List.mem_of_getElem? (i := 25) rfl)) (hw _ (List.mem_of_getElem? (i := 11) rfl))
  obtain ⟨n, o, h1, h2, h3, _, L, rfl, ⟨rfl, N⟩, -, hq⟩ := rm0 l s _ hw tables_1 i0 i1 i2 i3 i4 i5 z_COMPACT_STRINGS s.heap s.heap.size (Old.start s) hS p e ha hc hk s m _ below hf ((Spec.applies_iff_loose hf).mp happ).1 ⟨rfl, State.Warmed39.refl s, rfl, hCH⟩ trivial
  refine ⟨n, _, h1, h2, h3, hpost _ _ _ _ _ _ ⟨Cond.after_iff.mpr rfl, Cond.after_iff.mpr (eq_i res_at (Term.int_eval (1)) rfl), trivial⟩ ⟨hq.1, hq.2.1, hq.2.2.1, (hq.2.2.2.sift fun y hy => Or.inr (N y hy)).mono (by decide) (by decide)⟩⟩
theorem main_1_1 : Claimed_1_1 := comes_1 fun _ _ _ _ _ _ h hF => ⟨h.1, hF⟩
theorem main_1_2 : Claimed_1_2 := comes_1 fun _ _ _ _ _ _ h hF => ⟨h.2.1, hF⟩
end Jvm.Pilot.@@N@@
namespace Jvm.Pilot.@@N@@
open Jvm Jvm.ClassFile Sem Op Lib Jvm.Free Jvm.Stand Jvm.Pilot.@@N@@.Jvm.D
/-! MADE BY PROGRAM (witnessworld.py) out of the Statement's table words and the real class files: 22 classes; the members and pool entries that the words name. The judged class is class 1, her method 6. -/
namespace start1
open Jvm.ClassFile
def u (s : String) : CpInfo := .utf8 (stringToUtf16 s)
/-- a pool by its gaps: so many unusable entries, then the entry; so many at the end -/
def gap : Nat → List CpInfo → List CpInfo
  | 0, r => r
  | n + 1, r => .unusable :: gap n r
def poolList (es : List (Nat × CpInfo)) (last : Nat) : List CpInfo := es.foldr (fun e r => gap e.1 (e.2 :: r)) (gap last [])
def pool (es : List (Nat × CpInfo)) (last : Nat) : Array CpInfo := ⟨poolList es last⟩
def fileOf (pool : Array CpInfo) (this : Nat) (attrs : Array Attribute := #[]) (ms : Array MethodInfo := #[]) (fl : Nat := 33) (sup : Nat := 0) (ifs : Array Nat := #[]) (fds : Array FieldInfo := #[]) : ClassFile where
  minorVersion := 0
  majorVersion := 65
  constantPool := pool
  accessFlags := fl
  thisClass := this
  superClass := sup
  interfaces := ifs
  fields := fds
  methods := ms
  attributes := attrs
def plain (name : String) (sup : Option ClassId) : Class where
  name := name
  kind := .ordinary
  loader := none
  accessFlags := 33
  super := sup
  interfaces := #[]
  cf := none
  fields := #[]
  methods := #[]
  instanceTypes := #[]
  staticTypes := #[]
  resolved := #[]
  callSites := []
  init := .initialized
  statics := none
  mirror := none

def pool0 : Array CpInfo := pool [(5, u "<init>"), (0, u "()V"), (1, .class_ 10), (1, u "java/lang/Object")] 113

def k0c0 : Code := { maxStack := 0, maxLocals := 1, code := object_method_1_code, exceptionTable := #[], attributes := #[] }
def k0m0 : Method := { name := "<init>", desc := "()V", sig := { parameters := [], returnType := none }, accessFlags := 1, code := some k0c0 }
/-- java/lang/Object -/
def k0 : Class := { plain "java/lang/Object" none with
  accessFlags := 33
  interfaces := #[]
  cf := some (fileOf pool0 8 #[] #[{ accessFlags := 1, nameIndex := 5, descriptorIndex := 6, attributes := #[] }] 33 0 #[] #[])
  fields := #[]
  methods := #[k0m0]
  instanceTypes := #[]
  staticTypes := #[]
  resolved := Array.replicate 124 none
  statics := none }

def pool1 : Array CpInfo := pool [(2, .class_ 4), (1, u "java/lang/Object"), (0, u "<init>"), (0, u "()V"), (0, .methodref 8 9), (0, .class_ 10), (0, .nameAndType 11 12), (0, u "com/example/usher/usher/FoundGoesOnPinLaw"), (0, u "len"), (0, u "(I)I"), (0, .class_ 14), (0, u "java/lang/String"), (0, .methodref 13 16), (0, .nameAndType 5 17), (0, u "([C)V"), (0, .methodref 8 19), (0, .nameAndType 20 21), (0, u "c0"), (0, u "(I)C"), (0, .methodref 8 23), (0, .nameAndType 24 21), (0, u "c1"), (0, .class_ 26), (0, u "com/example/usher/usher/OutboxRuns$Found"), (0, .methodref 8 28), (0, .nameAndType 29 30), (0, u "mk"), (0, u "(I)Ljava/lang/String;"), (0, .long 18446744073709551615), (1, .methodref 25 34), (0, .nameAndType 5 35), (0, u "(Ljava/lang/String;Ljava/lang/String;JJJZZ)V"), (0, .class_ 37), (0, u "com/example/usher/usher/OutboxRuns$Run"), (0, .methodref 36 39), (0, .nameAndType 5 40), (0, u "(Ljava/lang/String;Ljava/lang/String;JJJ)V"), (0, .methodref 8 42), (0, .nameAndType 43 44), (0, u "same"), (0, u "(II)Z"), (0, .methodref 25 46), (0, .nameAndType 47 48), (0, u "goesOn"), (0, u "(Lcom/example/usher/usher/OutboxRuns$Run;)Z"), (3, u "law"), (0, u "(IIIIIJ)Z")] 7

def k1m0 : Method := { name := "<init>", desc := "()V", sig := { parameters := [], returnType := none }, accessFlags := 1, code := none }
def k1c1 : Code := { maxStack := 2, maxLocals := 1, code := method_2_code, exceptionTable := #[], attributes := #[] }
def k1m1 : Method := { name := "len", desc := "(I)I", sig := { parameters := [.int], returnType := some .int }, accessFlags := 10, code := some k1c1 }
def k1c2 : Code := { maxStack := 2, maxLocals := 1, code := method_3_code, exceptionTable := #[], attributes := #[] }
def k1m2 : Method := { name := "c0", desc := "(I)C", sig := { parameters := [.int], returnType := some .char }, accessFlags := 10, code := some k1c2 }
def k1c3 : Code := { maxStack := 2, maxLocals := 1, code := method_4_code, exceptionTable := #[], attributes := #[] }
def k1m3 : Method := { name := "c1", desc := "(I)C", sig := { parameters := [.int], returnType := some .char }, accessFlags := 10, code := some k1c3 }
def k1c4 : Code := { maxStack := 6, maxLocals := 2, code := method_5_code, exceptionTable := #[], attributes := #[] }
def k1m4 : Method := { name := "mk", desc := "(I)Ljava/lang/String;", sig := { parameters := [.int], returnType := some (.object "java/lang/String") }, accessFlags := 10, code := some k1c4 }
def k1c5 : Code := { maxStack := 2, maxLocals := 2, code := method_6_code, exceptionTable := #[], attributes := #[] }
def k1m5 : Method := { name := "same", desc := "(II)Z", sig := { parameters := [.int, .int], returnType := some .boolean }, accessFlags := 10, code := some k1c5 }
def k1c6 : Code := { maxStack := 12, maxLocals := 14, code := code, exceptionTable := #[], attributes := #[] }
def k1m6 : Method := { name := "law", desc := "(IIIIIJ)Z", sig := { parameters := [.int, .int, .int, .int, .int, .long], returnType := some .boolean }, accessFlags := 9, code := some k1c6 }
/-- com/example/usher/usher/FoundGoesOnPinLaw -/
def k1 : Class := { plain "com/example/usher/usher/FoundGoesOnPinLaw" (some 0) with
  accessFlags := 49
  interfaces := #[]
  cf := some (fileOf pool1 8 #[] #[{ accessFlags := 1, nameIndex := 5, descriptorIndex := 6, attributes := #[] }, { accessFlags := 10, nameIndex := 11, descriptorIndex := 12, attributes := #[] }, { accessFlags := 10, nameIndex := 20, descriptorIndex := 21, attributes := #[] }, { accessFlags := 10, nameIndex := 24, descriptorIndex := 21, attributes := #[] }, { accessFlags := 10, nameIndex := 29, descriptorIndex := 30, attributes := #[] }, { accessFlags := 10, nameIndex := 43, descriptorIndex := 44, attributes := #[] }, { accessFlags := 9, nameIndex := 52, descriptorIndex := 53, attributes := #[] }] 49 2 #[] #[])
  fields := #[]
  methods := #[k1m0, k1m1, k1m2, k1m3, k1m4, k1m5, k1m6]
  instanceTypes := #[]
  staticTypes := #[]
  resolved := Array.replicate 61 none
  statics := none }

def pool2 : Array CpInfo := pool [(1, .methodref 2 3), (0, .class_ 4), (0, .nameAndType 5 6), (0, u "java/lang/Object"), (0, u "<init>"), (0, u "()V"), (0, .class_ 8), (0, u "java/lang/Record")] 13

def k2c0 : Code := { maxStack := 1, maxLocals := 1, code := jdk_30_method_1_code, exceptionTable := #[], attributes := #[] }
def k2m0 : Method := { name := "<init>", desc := "()V", sig := { parameters := [], returnType := none }, accessFlags := 4, code := some k2c0 }
/-- java/lang/Record -/
def k2 : Class := { plain "java/lang/Record" (some 0) with
  accessFlags := 1057
  interfaces := #[]
  cf := some (fileOf pool2 7 #[] #[{ accessFlags := 4, nameIndex := 5, descriptorIndex := 6, attributes := #[] }] 1057 2 #[] #[])
  fields := #[]
  methods := #[k2m0]
  instanceTypes := #[]
  staticTypes := #[]
  resolved := Array.replicate 22 none
  statics := none }

def pool3 : Array CpInfo := pool [(1, .methodref 2 3), (0, .class_ 4), (0, .nameAndType 5 6), (0, u "java/lang/Record"), (0, u "<init>"), (0, u "()V"), (0, .fieldref 8 9), (0, .class_ 10), (0, .nameAndType 11 12), (0, u "com/example/usher/usher/OutboxRuns$Found"), (0, u "aggregateType"), (0, u "Ljava/lang/String;"), (0, .fieldref 8 14), (0, .nameAndType 15 12), (0, u "aggregateId"), (0, .fieldref 8 17), (0, .nameAndType 18 19), (0, u "first"), (0, u "J"), (0, .fieldref 8 21), (0, .nameAndType 22 19), (0, u "last"), (0, .fieldref 8 24), (0, .nameAndType 25 19), (0, u "rows"), (0, .fieldref 8 27), (0, .nameAndType 28 29), (0, u "firstRead"), (0, u "Z"), (0, .fieldref 8 31), (0, .nameAndType 32 29), (0, u "reachesEnd"), (0, .methodref 34 35), (0, .class_ 36), (0, .nameAndType 11 37), (0, u "com/example/usher/usher/OutboxRuns$Run"), (0, u "()Ljava/lang/String;"), (0, .methodref 39 40), (0, .class_ 41), (0, .nameAndType 42 43), (0, u "java/lang/String"), (0, u "equals"), (0, u "(Ljava/lang/Object;)Z"), (0, .methodref 34 45), (0, .nameAndType 15 37), (11, u "(Ljava/lang/String;Ljava/lang/String;JJJZZ)V"), (3, u "goesOn"), (0, u "(Lcom/example/usher/usher/OutboxRuns$Run;)Z"), (7, .class_ 71), (0, u "com/example/usher/usher/OutboxRuns")] 26

def k3c0 : Code := { maxStack := 3, maxLocals := 11, code := prog_14_method_1_code, exceptionTable := #[], attributes := #[] }
def k3m0 : Method := { name := "<init>", desc := "(Ljava/lang/String;Ljava/lang/String;JJJZZ)V", sig := { parameters := [(.object "java/lang/String"), (.object "java/lang/String"), .long, .long, .long, .boolean, .boolean], returnType := none }, accessFlags := 0, code := some k3c0 }
def k3c1 : Code := { maxStack := 2, maxLocals := 2, code := prog_14_method_2_code, exceptionTable := #[], attributes := #[] }
def k3m1 : Method := { name := "goesOn", desc := "(Lcom/example/usher/usher/OutboxRuns$Run;)Z", sig := { parameters := [(.object "com/example/usher/usher/OutboxRuns$Run")], returnType := some .boolean }, accessFlags := 0, code := some k3c1 }
/-- com/example/usher/usher/OutboxRuns$Found -/
def k3 : Class := { plain "com/example/usher/usher/OutboxRuns$Found" (some 2) with
  accessFlags := 48
  interfaces := #[]
  cf := some (fileOf pool3 8 #[.nestHost 70] #[{ accessFlags := 0, nameIndex := 5, descriptorIndex := 57, attributes := #[] }, { accessFlags := 0, nameIndex := 61, descriptorIndex := 62, attributes := #[] }] 48 2 #[] #[{ accessFlags := 18, nameIndex := 11, descriptorIndex := 12, attributes := #[] }, { accessFlags := 18, nameIndex := 15, descriptorIndex := 12, attributes := #[] }, { accessFlags := 18, nameIndex := 18, descriptorIndex := 19, attributes := #[] }, { accessFlags := 18, nameIndex := 22, descriptorIndex := 19, attributes := #[] }, { accessFlags := 18, nameIndex := 25, descriptorIndex := 19, attributes := #[] }, { accessFlags := 18, nameIndex := 28, descriptorIndex := 29, attributes := #[] }, { accessFlags := 18, nameIndex := 32, descriptorIndex := 29, attributes := #[] }])
  fields := #[{ name := "aggregateType", type := (.object "java/lang/String"), accessFlags := 18, slot := 0, constantValue := 0 }, { name := "aggregateId", type := (.object "java/lang/String"), accessFlags := 18, slot := 1, constantValue := 0 }, { name := "first", type := .long, accessFlags := 18, slot := 2, constantValue := 0 }, { name := "last", type := .long, accessFlags := 18, slot := 3, constantValue := 0 }, { name := "rows", type := .long, accessFlags := 18, slot := 4, constantValue := 0 }, { name := "firstRead", type := .boolean, accessFlags := 18, slot := 5, constantValue := 0 }, { name := "reachesEnd", type := .boolean, accessFlags := 18, slot := 6, constantValue := 0 }]
  methods := #[k3m0, k3m1]
  instanceTypes := #[(.object "java/lang/String"), (.object "java/lang/String"), .long, .long, .long, .boolean, .boolean]
  staticTypes := #[]
  resolved := Array.replicate 98 none
  statics := none }

def pool4 : Array CpInfo := pool [(1, .class_ 2), (0, u "java/io/Serializable"), (0, .class_ 4), (0, u "java/lang/Object")] 2

/-- java/io/Serializable -/
def k4 : Class := { plain "java/io/Serializable" (some 0) with
  accessFlags := 1537
  interfaces := #[]
  cf := some (fileOf pool4 1 #[] #[] 1537 3 #[] #[])
  fields := #[]
  methods := #[]
  instanceTypes := #[]
  staticTypes := #[]
  resolved := Array.replicate 7 none
  statics := none }

def pool5 : Array CpInfo := pool [(1, .class_ 2), (0, u "java/lang/Comparable"), (0, .class_ 4), (0, u "java/lang/Object")] 7

/-- java/lang/Comparable -/
def k5 : Class := { plain "java/lang/Comparable" (some 0) with
  accessFlags := 1537
  interfaces := #[]
  cf := some (fileOf pool5 1 #[] #[] 1537 3 #[] #[])
  fields := #[]
  methods := #[]
  instanceTypes := #[]
  staticTypes := #[]
  resolved := Array.replicate 12 none
  statics := none }

def pool6 : Array CpInfo := pool [(2, .class_ 4), (1, u "java/lang/CharSequence"), (42, .class_ 48), (0, u "java/lang/CharSequence$1CodePointIterator"), (10, .class_ 60), (0, u "java/lang/CharSequence$1CharIterator"), (5, .class_ 67), (0, u "java/lang/Object")] 63

/-- java/lang/CharSequence -/
def k6 : Class := { plain "java/lang/CharSequence" (some 0) with
  accessFlags := 1537
  interfaces := #[]
  cf := some (fileOf pool6 2 #[.nestMembers #[47, 59]] #[] 1537 66 #[] #[])
  fields := #[]
  methods := #[]
  instanceTypes := #[]
  staticTypes := #[]
  resolved := Array.replicate 131 none
  statics := none }

def pool7 : Array CpInfo := pool [(1, .class_ 2), (0, u "java/lang/constant/Constable"), (0, .class_ 4), (0, u "java/lang/Object")] 6

/-- java/lang/constant/Constable -/
def k7 : Class := { plain "java/lang/constant/Constable" (some 0) with
  accessFlags := 1537
  interfaces := #[]
  cf := some (fileOf pool7 1 #[] #[] 1537 3 #[] #[])
  fields := #[]
  methods := #[]
  instanceTypes := #[]
  staticTypes := #[]
  resolved := Array.replicate 11 none
  statics := none }

def pool8 : Array CpInfo := pool [(1, .class_ 2), (0, u "java/lang/constant/ConstantDesc"), (0, .class_ 4), (0, u "java/lang/Object")] 32

/-- java/lang/constant/ConstantDesc -/
def k8 : Class := { plain "java/lang/constant/ConstantDesc" (some 0) with
  accessFlags := 1537
  interfaces := #[]
  cf := some (fileOf pool8 1 #[] #[] 1537 3 #[] #[])
  fields := #[]
  methods := #[]
  instanceTypes := #[]
  staticTypes := #[]
  resolved := Array.replicate 37 none
  statics := none }

def pool9 : Array CpInfo := pool [(1, .methodref 2 3), (0, .class_ 4), (0, .nameAndType 5 6), (0, u "java/lang/Object"), (0, u "<init>"), (0, u "()V"), (0, .string 8), (0, u ""), (0, .fieldref 10 11), (0, .class_ 12), (0, .nameAndType 13 14), (0, u "java/lang/String"), (0, u "value"), (0, u "[B"), (0, .fieldref 10 16), (0, .nameAndType 17 18), (0, u "coder"), (0, u "B"), (2, u "hash"), (0, u "I"), (2, u "hashIsZero"), (0, u "Z"), (0, .methodref 10 28), (0, .nameAndType 5 29), (0, u "([CIILjava/lang/Void;)V"), (8, .fieldref 10 39), (0, .nameAndType 40 26), (0, u "COMPACT_STRINGS"), (1, .class_ 44), (1, u "java/lang/StringUTF16"), (0, u "compress"), (1, .methodref 42 48), (0, .nameAndType 49 50), (0, u "coderFromArrayLen"), (0, u "([BI)B"), (56, .class_ 109), (1, u "java/lang/StringLatin1"), (67, .methodref 42 178), (0, .nameAndType 45 179), (0, u "([CII)[B"), (361, .methodref 107 542), (0, .nameAndType 543 544), (0, u "equals"), (0, u "([B[B)Z"), (28, u "(Ljava/lang/Object;)Z"), (1, .class_ 576), (0, u "java/lang/CharSequence"), (22, u "CASE_INSENSITIVE_ORDER"), (0, u "Ljava/util/Comparator;"), (409, u "([C)V"), (90, u "serialPersistentFields"), (0, u "[Ljava/io/ObjectStreamField;"), (0, .class_ 1104), (0, u "java/lang/String$CaseInsensitiveComparator"), (1, .class_ 1107), (0, u "java/io/Serializable"), (0, .class_ 1109), (0, u "java/lang/Comparable"), (0, .class_ 1111), (0, u "java/lang/constant/Constable"), (0, .class_ 1113), (0, u "java/lang/constant/ConstantDesc"), (2, u "serialVersionUID"), (0, u "J"), (3, u "REPL"), (0, u "C"), (2, u "LATIN1"), (1, u "UTF16")] 323

def k9m0 : Method := { name := "<init>", desc := "()V", sig := { parameters := [], returnType := none }, accessFlags := 1, code := none }
def k9c1 : Code := { maxStack := 5, maxLocals := 2, code := jdk_42_method_3_code, exceptionTable := #[], attributes := #[] }
def k9m1 : Method := { name := "<init>", desc := "([C)V", sig := { parameters := [(.array .char)], returnType := none }, accessFlags := 1, code := some k9c1 }
def k9c2 : Code := { maxStack := 2, maxLocals := 3, code := jdk_42_method_66_code, exceptionTable := #[], attributes := #[] }
def k9m2 : Method := { name := "equals", desc := "(Ljava/lang/Object;)Z", sig := { parameters := [(.object "java/lang/Object")], returnType := some .boolean }, accessFlags := 1, code := some k9c2 }
def k9c3 : Code := { maxStack := 4, maxLocals := 6, code := jdk_42_method_149_code, exceptionTable := #[], attributes := #[] }
def k9m3 : Method := { name := "<init>", desc := "([CIILjava/lang/Void;)V", sig := { parameters := [(.array .char), .int, .int, (.object "java/lang/Void")], returnType := none }, accessFlags := 2, code := some k9c3 }
/-- java/lang/String -/
def k9 : Class := { plain "java/lang/String" (some 0) with
  accessFlags := 49
  interfaces := #[4, 5, 6, 7, 8]
  cf := some (fileOf pool9 10 #[.nestMembers #[1103]] #[{ accessFlags := 1, nameIndex := 5, descriptorIndex := 6, attributes := #[] }, { accessFlags := 1, nameIndex := 5, descriptorIndex := 1010, attributes := #[] }, { accessFlags := 1, nameIndex := 543, descriptorIndex := 573, attributes := #[] }, { accessFlags := 2, nameIndex := 5, descriptorIndex := 29, attributes := #[] }] 49 2 #[1106, 1108, 575, 1110, 1112] #[{ accessFlags := 18, nameIndex := 13, descriptorIndex := 14, attributes := #[] }, { accessFlags := 18, nameIndex := 17, descriptorIndex := 18, attributes := #[] }, { accessFlags := 2, nameIndex := 21, descriptorIndex := 22, attributes := #[] }, { accessFlags := 2, nameIndex := 25, descriptorIndex := 26, attributes := #[] }, { accessFlags := 26, nameIndex := 1116, descriptorIndex := 1117, attributes := #[] }, { accessFlags := 24, nameIndex := 40, descriptorIndex := 26, attributes := #[] }, { accessFlags := 26, nameIndex := 1101, descriptorIndex := 1102, attributes := #[] }, { accessFlags := 26, nameIndex := 1121, descriptorIndex := 1122, attributes := #[] }, { accessFlags := 25, nameIndex := 599, descriptorIndex := 600, attributes := #[] }, { accessFlags := 24, nameIndex := 1125, descriptorIndex := 18, attributes := #[] }, { accessFlags := 24, nameIndex := 1127, descriptorIndex := 18, attributes := #[] }])
  fields := #[{ name := "value", type := (.array .byte), accessFlags := 18, slot := 0, constantValue := 0 }, { name := "coder", type := .byte, accessFlags := 18, slot := 1, constantValue := 0 }, { name := "hash", type := .int, accessFlags := 2, slot := 2, constantValue := 0 }, { name := "hashIsZero", type := .boolean, accessFlags := 2, slot := 3, constantValue := 0 }, { name := "serialVersionUID", type := .long, accessFlags := 26, slot := 0, constantValue := 0 }, { name := "COMPACT_STRINGS", type := .boolean, accessFlags := 24, slot := 1, constantValue := 0 }, { name := "serialPersistentFields", type := (.array (.object "java/io/ObjectStreamField")), accessFlags := 26, slot := 2, constantValue := 0 }, { name := "REPL", type := .char, accessFlags := 26, slot := 3, constantValue := 0 }, { name := "CASE_INSENSITIVE_ORDER", type := (.object "java/util/Comparator"), accessFlags := 25, slot := 4, constantValue := 0 }, { name := "LATIN1", type := .byte, accessFlags := 24, slot := 5, constantValue := 0 }, { name := "UTF16", type := .byte, accessFlags := 24, slot := 6, constantValue := 0 }]
  methods := #[k9m0, k9m1, k9m2, k9m3]
  instanceTypes := #[(.array .byte), .byte, .int, .boolean]
  staticTypes := #[.long, .boolean, (.array (.object "java/io/ObjectStreamField")), .char, (.object "java/util/Comparator"), .byte, .byte]
  resolved := Array.replicate 1451 none
  statics := some 0 }

def pool10 : Array CpInfo := pool [(1, .methodref 2 3), (0, .class_ 4), (0, .nameAndType 5 6), (0, u "java/lang/Record"), (0, u "<init>"), (0, u "()V"), (0, .fieldref 8 9), (0, .class_ 10), (0, .nameAndType 11 12), (0, u "com/example/usher/usher/OutboxRuns$Run"), (0, u "aggregateType"), (0, u "Ljava/lang/String;"), (0, .fieldref 8 14), (0, .nameAndType 15 12), (0, u "aggregateId"), (0, .fieldref 8 17), (0, .nameAndType 18 19), (0, u "first"), (0, u "J"), (0, .fieldref 8 21), (0, .nameAndType 22 19), (0, u "last"), (0, .fieldref 8 24), (0, .nameAndType 25 19), (0, u "rows"), (12, u "(Ljava/lang/String;Ljava/lang/String;JJJ)V"), (3, u "()Ljava/lang/String;"), (6, .class_ 50), (0, u "com/example/usher/usher/OutboxRuns")] 23

def k10c0 : Code := { maxStack := 3, maxLocals := 9, code := prog_16_method_1_code, exceptionTable := #[], attributes := #[] }
def k10m0 : Method := { name := "<init>", desc := "(Ljava/lang/String;Ljava/lang/String;JJJ)V", sig := { parameters := [(.object "java/lang/String"), (.object "java/lang/String"), .long, .long, .long], returnType := none }, accessFlags := 0, code := some k10c0 }
def k10c1 : Code := { maxStack := 1, maxLocals := 1, code := prog_16_method_5_code, exceptionTable := #[], attributes := #[] }
def k10m1 : Method := { name := "aggregateType", desc := "()Ljava/lang/String;", sig := { parameters := [], returnType := some (.object "java/lang/String") }, accessFlags := 1, code := some k10c1 }
def k10c2 : Code := { maxStack := 1, maxLocals := 1, code := prog_16_method_6_code, exceptionTable := #[], attributes := #[] }
def k10m2 : Method := { name := "aggregateId", desc := "()Ljava/lang/String;", sig := { parameters := [], returnType := some (.object "java/lang/String") }, accessFlags := 1, code := some k10c2 }
/-- com/example/usher/usher/OutboxRuns$Run -/
def k10 : Class := { plain "com/example/usher/usher/OutboxRuns$Run" (some 2) with
  accessFlags := 48
  interfaces := #[]
  cf := some (fileOf pool10 8 #[.nestHost 49] #[{ accessFlags := 0, nameIndex := 5, descriptorIndex := 38, attributes := #[] }, { accessFlags := 1, nameIndex := 11, descriptorIndex := 42, attributes := #[] }, { accessFlags := 1, nameIndex := 15, descriptorIndex := 42, attributes := #[] }] 48 2 #[] #[{ accessFlags := 18, nameIndex := 11, descriptorIndex := 12, attributes := #[] }, { accessFlags := 18, nameIndex := 15, descriptorIndex := 12, attributes := #[] }, { accessFlags := 18, nameIndex := 18, descriptorIndex := 19, attributes := #[] }, { accessFlags := 18, nameIndex := 22, descriptorIndex := 19, attributes := #[] }, { accessFlags := 18, nameIndex := 25, descriptorIndex := 19, attributes := #[] }])
  fields := #[{ name := "aggregateType", type := (.object "java/lang/String"), accessFlags := 18, slot := 0, constantValue := 0 }, { name := "aggregateId", type := (.object "java/lang/String"), accessFlags := 18, slot := 1, constantValue := 0 }, { name := "first", type := .long, accessFlags := 18, slot := 2, constantValue := 0 }, { name := "last", type := .long, accessFlags := 18, slot := 3, constantValue := 0 }, { name := "rows", type := .long, accessFlags := 18, slot := 4, constantValue := 0 }]
  methods := #[k10m0, k10m1, k10m2]
  instanceTypes := #[(.object "java/lang/String"), (.object "java/lang/String"), .long, .long, .long]
  staticTypes := #[]
  resolved := Array.replicate 74 none
  statics := none }

def pool11 : Array CpInfo := pool [(6, .class_ 8), (1, u "java/lang/Object"), (0, u "<init>"), (0, u "()V"), (1, .class_ 14), (1, u "java/lang/StringUTF16"), (31, u "$assertionsDisabled"), (0, u "Z"), (13, u "HI_BYTE_SHIFT"), (0, u "I"), (2, u "LO_BYTE_SHIFT"), (49, .methodref 12 116), (0, .nameAndType 117 118), (0, u "compress"), (0, u "([CI[BII)I"), (3, u "([CII)[B"), (138, u "coderFromArrayLen"), (0, u "([BI)B"), (106, .class_ 371), (1, u "java/lang/StringUTF16$LinesSpliterator"), (58, u "MAX_LENGTH"), (196, .class_ 628), (0, u "java/lang/StringUTF16$CodePointsSpliterator"), (0, .class_ 630), (0, u "java/lang/StringUTF16$CharsSpliterator")] 4

def k11m0 : Method := { name := "<init>", desc := "()V", sig := { parameters := [], returnType := none }, accessFlags := 0, code := none }
def k11c1 : Code := { maxStack := 2, maxLocals := 2, code := jdk_52_method_15_code, exceptionTable := #[], attributes := #[] }
def k11m1 : Method := { name := "coderFromArrayLen", desc := "([BI)B", sig := { parameters := [(.array .byte), .int], returnType := some .byte }, accessFlags := 8, code := some k11c1 }
def k11c2 : Code := { maxStack := 5, maxLocals := 6, code := jdk_52_method_16_code, exceptionTable := #[], attributes := #[] }
def k11m2 : Method := { name := "compress", desc := "([CII)[B", sig := { parameters := [(.array .char), .int, .int], returnType := some (.array .byte) }, accessFlags := 9, code := some k11c2 }
def k11c3 : Code := { maxStack := 3, maxLocals := 7, code := jdk_52_method_21_code, exceptionTable := #[], attributes := #[] }
def k11m3 : Method := { name := "compress", desc := "([CI[BII)I", sig := { parameters := [(.array .char), .int, (.array .byte), .int, .int], returnType := some .int }, accessFlags := 9, code := some k11c3 }
/-- java/lang/StringUTF16 -/
def k11 : Class := { plain "java/lang/StringUTF16" (some 0) with
  accessFlags := 48
  interfaces := #[]
  cf := some (fileOf pool11 12 #[.nestMembers #[627, 629, 369]] #[{ accessFlags := 0, nameIndex := 9, descriptorIndex := 10, attributes := #[] }, { accessFlags := 8, nameIndex := 261, descriptorIndex := 262, attributes := #[] }, { accessFlags := 9, nameIndex := 117, descriptorIndex := 122, attributes := #[] }, { accessFlags := 9, nameIndex := 117, descriptorIndex := 118, attributes := #[] }] 48 6 #[] #[{ accessFlags := 26, nameIndex := 61, descriptorIndex := 62, attributes := #[] }, { accessFlags := 26, nameIndex := 65, descriptorIndex := 62, attributes := #[] }, { accessFlags := 24, nameIndex := 430, descriptorIndex := 62, attributes := #[] }, { accessFlags := 4120, nameIndex := 46, descriptorIndex := 47, attributes := #[] }])
  fields := #[{ name := "HI_BYTE_SHIFT", type := .int, accessFlags := 26, slot := 0, constantValue := 0 }, { name := "LO_BYTE_SHIFT", type := .int, accessFlags := 26, slot := 1, constantValue := 0 }, { name := "MAX_LENGTH", type := .int, accessFlags := 24, slot := 2, constantValue := 0 }, { name := "$assertionsDisabled", type := .boolean, accessFlags := 4120, slot := 3, constantValue := 0 }]
  methods := #[k11m0, k11m1, k11m2, k11m3]
  instanceTypes := #[]
  staticTypes := #[.int, .int, .int, .boolean]
  resolved := Array.replicate 635 none
  statics := none }

def pool12 : Array CpInfo := pool [(4, .class_ 6), (1, u "java/lang/Object"), (0, u "<init>"), (0, u "()V"), (5, .class_ 16), (1, u "java/lang/StringLatin1"), (104, u "$assertionsDisabled"), (0, u "Z"), (98, .class_ 223), (1, u "java/lang/StringLatin1$LinesSpliterator"), (57, u "equals"), (0, u "([B[B)Z"), (107, .class_ 391), (0, u "java/lang/StringLatin1$CharsSpliterator")] 3

def k12m0 : Method := { name := "<init>", desc := "()V", sig := { parameters := [], returnType := none }, accessFlags := 0, code := none }
def k12c1 : Code := { maxStack := 3, maxLocals := 3, code := jdk_43_method_13_code, exceptionTable := #[], attributes := #[] }
def k12m1 : Method := { name := "equals", desc := "([B[B)Z", sig := { parameters := [(.array .byte), (.array .byte)], returnType := some .boolean }, accessFlags := 9, code := some k12c1 }
/-- java/lang/StringLatin1 -/
def k12 : Class := { plain "java/lang/StringLatin1" (some 0) with
  accessFlags := 48
  interfaces := #[]
  cf := some (fileOf pool12 14 #[.nestMembers #[390, 221]] #[{ accessFlags := 0, nameIndex := 7, descriptorIndex := 8, attributes := #[] }, { accessFlags := 9, nameIndex := 281, descriptorIndex := 282, attributes := #[] }] 48 4 #[] #[{ accessFlags := 4120, nameIndex := 121, descriptorIndex := 122, attributes := #[] }])
  fields := #[{ name := "$assertionsDisabled", type := .boolean, accessFlags := 4120, slot := 0, constantValue := 0 }]
  methods := #[k12m0, k12m1]
  instanceTypes := #[]
  staticTypes := #[.boolean]
  resolved := Array.replicate 395 none
  statics := none }

def pool13 : Array CpInfo := pool [(2, .class_ 4), (1, u "java/lang/Object"), (0, u "<init>"), (0, u "()V"), (17, .class_ 26), (1, u "jdk/internal/util/Preconditions"), (28, .class_ 56), (0, u "jdk/internal/util/Preconditions$4"), (57, .class_ 115), (0, u "jdk/internal/util/Preconditions$1"), (7, u "SIOOBE_FORMATTER"), (0, u "Ljava/util/function/BiFunction;"), (0, .class_ 126), (0, u "jdk/internal/util/Preconditions$2"), (3, u "AIOOBE_FORMATTER"), (0, .class_ 132), (0, u "jdk/internal/util/Preconditions$3"), (3, u "IOOBE_FORMATTER")] 57

def k13m0 : Method := { name := "<init>", desc := "()V", sig := { parameters := [], returnType := none }, accessFlags := 1, code := none }
/-- jdk/internal/util/Preconditions -/
def k13 : Class := { plain "jdk/internal/util/Preconditions" (some 0) with
  accessFlags := 33
  interfaces := #[]
  cf := some (fileOf pool13 24 #[.nestMembers #[55, 131, 125, 114]] #[{ accessFlags := 1, nameIndex := 5, descriptorIndex := 6, attributes := #[] }] 33 2 #[] #[{ accessFlags := 25, nameIndex := 123, descriptorIndex := 124, attributes := #[] }, { accessFlags := 25, nameIndex := 130, descriptorIndex := 124, attributes := #[] }, { accessFlags := 25, nameIndex := 136, descriptorIndex := 124, attributes := #[] }])
  fields := #[{ name := "SIOOBE_FORMATTER", type := (.object "java/util/function/BiFunction"), accessFlags := 25, slot := 0, constantValue := 0 }, { name := "AIOOBE_FORMATTER", type := (.object "java/util/function/BiFunction"), accessFlags := 25, slot := 1, constantValue := 0 }, { name := "IOOBE_FORMATTER", type := (.object "java/util/function/BiFunction"), accessFlags := 25, slot := 2, constantValue := 0 }]
  methods := #[k13m0]
  instanceTypes := #[]
  staticTypes := #[(.object "java/util/function/BiFunction"), (.object "java/util/function/BiFunction"), (.object "java/util/function/BiFunction")]
  resolved := Array.replicate 194 none
  statics := some 1 }

def pool14 : Array CpInfo := pool [(9, u "<init>"), (6, .class_ 18), (1, u "java/lang/Object"), (0, u "()V"), (1, .class_ 23), (1, u "jdk/internal/util/ArraysSupport"), (0, u "LOG2_ARRAY_LONG_INDEX_SCALE"), (0, u "I"), (2, u "U"), (0, u "Ljdk/internal/misc/Unsafe;"), (8, u "BIG_ENDIAN"), (0, u "Z"), (8, u "LOG2_BYTE_BIT_SIZE"), (4, u "LOG2_ARRAY_INT_INDEX_SCALE"), (54, u "JLA"), (0, u "Ljdk/internal/access/JavaLangAccess;"), (11, u "LOG2_ARRAY_BOOLEAN_INDEX_SCALE"), (9, u "LOG2_ARRAY_BYTE_INDEX_SCALE"), (5, u "LOG2_ARRAY_CHAR_INDEX_SCALE"), (5, u "LOG2_ARRAY_SHORT_INDEX_SCALE"), (18, u "LOG2_ARRAY_FLOAT_INDEX_SCALE"), (24, u "LOG2_ARRAY_DOUBLE_INDEX_SCALE"), (89, u "T_BOOLEAN"), (2, u "T_CHAR"), (1, u "T_FLOAT"), (1, u "T_DOUBLE"), (1, u "T_BYTE"), (1, u "T_SHORT"), (1, u "T_INT"), (1, u "T_LONG"), (1, u "SOFT_MAX_ARRAY_LENGTH")] 83

def k14m0 : Method := { name := "<init>", desc := "()V", sig := { parameters := [], returnType := none }, accessFlags := 2, code := none }
/-- jdk/internal/util/ArraysSupport -/
def k14 : Class := { plain "jdk/internal/util/ArraysSupport" (some 0) with
  accessFlags := 33
  interfaces := #[]
  cf := some (fileOf pool14 21 #[] #[{ accessFlags := 2, nameIndex := 9, descriptorIndex := 19, attributes := #[] }] 33 16 #[] #[{ accessFlags := 24, nameIndex := 28, descriptorIndex := 29, attributes := #[] }, { accessFlags := 26, nameIndex := 38, descriptorIndex := 39, attributes := #[] }, { accessFlags := 25, nameIndex := 121, descriptorIndex := 25, attributes := #[] }, { accessFlags := 25, nameIndex := 131, descriptorIndex := 25, attributes := #[] }, { accessFlags := 25, nameIndex := 137, descriptorIndex := 25, attributes := #[] }, { accessFlags := 25, nameIndex := 143, descriptorIndex := 25, attributes := #[] }, { accessFlags := 25, nameIndex := 53, descriptorIndex := 25, attributes := #[] }, { accessFlags := 25, nameIndex := 24, descriptorIndex := 25, attributes := #[] }, { accessFlags := 25, nameIndex := 162, descriptorIndex := 25, attributes := #[] }, { accessFlags := 25, nameIndex := 187, descriptorIndex := 25, attributes := #[] }, { accessFlags := 26, nameIndex := 48, descriptorIndex := 25, attributes := #[] }, { accessFlags := 25, nameIndex := 277, descriptorIndex := 25, attributes := #[] }, { accessFlags := 25, nameIndex := 280, descriptorIndex := 25, attributes := #[] }, { accessFlags := 25, nameIndex := 282, descriptorIndex := 25, attributes := #[] }, { accessFlags := 25, nameIndex := 284, descriptorIndex := 25, attributes := #[] }, { accessFlags := 25, nameIndex := 286, descriptorIndex := 25, attributes := #[] }, { accessFlags := 25, nameIndex := 288, descriptorIndex := 25, attributes := #[] }, { accessFlags := 25, nameIndex := 290, descriptorIndex := 25, attributes := #[] }, { accessFlags := 25, nameIndex := 292, descriptorIndex := 25, attributes := #[] }, { accessFlags := 26, nameIndex := 108, descriptorIndex := 109, attributes := #[] }, { accessFlags := 25, nameIndex := 294, descriptorIndex := 25, attributes := #[] }])
  fields := #[{ name := "U", type := (.object "jdk/internal/misc/Unsafe"), accessFlags := 24, slot := 0, constantValue := 0 }, { name := "BIG_ENDIAN", type := .boolean, accessFlags := 26, slot := 1, constantValue := 0 }, { name := "LOG2_ARRAY_BOOLEAN_INDEX_SCALE", type := .int, accessFlags := 25, slot := 2, constantValue := 0 }, { name := "LOG2_ARRAY_BYTE_INDEX_SCALE", type := .int, accessFlags := 25, slot := 3, constantValue := 0 }, { name := "LOG2_ARRAY_CHAR_INDEX_SCALE", type := .int, accessFlags := 25, slot := 4, constantValue := 0 }, { name := "LOG2_ARRAY_SHORT_INDEX_SCALE", type := .int, accessFlags := 25, slot := 5, constantValue := 0 }, { name := "LOG2_ARRAY_INT_INDEX_SCALE", type := .int, accessFlags := 25, slot := 6, constantValue := 0 }, { name := "LOG2_ARRAY_LONG_INDEX_SCALE", type := .int, accessFlags := 25, slot := 7, constantValue := 0 }, { name := "LOG2_ARRAY_FLOAT_INDEX_SCALE", type := .int, accessFlags := 25, slot := 8, constantValue := 0 }, { name := "LOG2_ARRAY_DOUBLE_INDEX_SCALE", type := .int, accessFlags := 25, slot := 9, constantValue := 0 }, { name := "LOG2_BYTE_BIT_SIZE", type := .int, accessFlags := 26, slot := 10, constantValue := 0 }, { name := "T_BOOLEAN", type := .int, accessFlags := 25, slot := 11, constantValue := 0 }, { name := "T_CHAR", type := .int, accessFlags := 25, slot := 12, constantValue := 0 }, { name := "T_FLOAT", type := .int, accessFlags := 25, slot := 13, constantValue := 0 }, { name := "T_DOUBLE", type := .int, accessFlags := 25, slot := 14, constantValue := 0 }, { name := "T_BYTE", type := .int, accessFlags := 25, slot := 15, constantValue := 0 }, { name := "T_SHORT", type := .int, accessFlags := 25, slot := 16, constantValue := 0 }, { name := "T_INT", type := .int, accessFlags := 25, slot := 17, constantValue := 0 }, { name := "T_LONG", type := .int, accessFlags := 25, slot := 18, constantValue := 0 }, { name := "JLA", type := (.object "jdk/internal/access/JavaLangAccess"), accessFlags := 26, slot := 19, constantValue := 0 }, { name := "SOFT_MAX_ARRAY_LENGTH", type := .int, accessFlags := 25, slot := 20, constantValue := 0 }]
  methods := #[k14m0]
  instanceTypes := #[]
  staticTypes := #[(.object "jdk/internal/misc/Unsafe"), .boolean, .int, .int, .int, .int, .int, .int, .int, .int, .int, .int, .int, .int, .int, .int, .int, .int, .int, (.object "jdk/internal/access/JavaLangAccess"), .int]
  resolved := Array.replicate 378 none
  statics := none }

def pool15 : Array CpInfo := pool [(1, u "java/lang/Cloneable"), (0, .class_ 1), (0, u "java/lang/Object"), (0, .class_ 3)] 3

/-- java/lang/Cloneable -/
def k15 : Class := { plain "java/lang/Cloneable" (some 0) with
  accessFlags := 1537
  interfaces := #[]
  cf := some (fileOf pool15 2 #[] #[] 1537 4 #[] #[])
  fields := #[]
  methods := #[]
  instanceTypes := #[]
  staticTypes := #[]
  resolved := Array.replicate 8 none
  statics := none }

/-- the primitive byte -/
def k16 : Class := { plain "byte" none with kind := .primitive 'B', accessFlags := 0x411 }
/-- [B -/
def k17 : Class := { plain "[B" (some 0) with kind := .array 16 .byte, interfaces := #[15, 4], accessFlags := 1041 }

/-- the primitive char -/
def k18 : Class := { plain "char" none with kind := .primitive 'C', accessFlags := 0x411 }
/-- [C -/
def k19 : Class := { plain "[C" (some 0) with kind := .array 18 .char, interfaces := #[15, 4], accessFlags := 1041 }

/-- the primitive int -/
def k20 : Class := { plain "int" none with kind := .primitive 'I', accessFlags := 0x411 }
/-- [I -/
def k21 : Class := { plain "[I" (some 0) with kind := .array 20 .int, interfaces := #[15, 4], accessFlags := 1041 }

def heap : Heap := #[{ cls := 9, slots := #[.long 0, .int 1, .null, .int 0, .null, .int 0, .int 0], vm := .statics 9 },
  { cls := 13, slots := #[.null, .null, .null], vm := .statics 13 }]
def classes : Array Class := #[k0, k1, k2, k3, k4, k5, k6, k7, k8, k9, k10, k11, k12, k13, k14, k15, k16, k17, k18, k19, k20, k21]
def interned : List (Array UInt16 × Addr) := []
def slotsUsed : Nat := 10
def theMethod : MethodId := ⟨1, 6⟩
def args0 : Array Value := #[.int 1, .int 5, .int 9, .int 14, .int 3, .long 77]
def aboutOver (below : List Frame) : State where
  vm := { classes := classes, interned := interned.toArray }
  heap := heap
  slotsUsed := slotsUsed
  threads := #[{ frames := .invoking theMethod args0 :: below }]
def below0 : List Frame := [.native { method := ⟨0, 0⟩, args := #[] }]
def about1 : State := aboutOver below0
def p0 : Program := .bare "" "" ""
def e0 : Env := launch0.env 0 0 0
theorem w_frames : about1.frames = Frame.invoking theMethod args0 :: below0 := rfl
set_option maxRecDepth 65536 in
theorem w_args : argsFit about1.vm theMethod args0 = true := by decide +kernel
set_option maxRecDepth 65536 in
theorem w_heap : heapFits about1 = true := by decide +kernel
set_option maxRecDepth 65536 in
theorem w_runnable : about1.curStatus? = some .runnable := by decide +kernel
set_option maxRecDepth 65536 in
theorem w_alone : about1.alone = true := by decide +kernel
set_option maxRecDepth 65536 in
theorem w_named : about1.methodNamed? x = some theMethod := by decide +kernel
set_option maxRecDepth 65536 in
theorem w_hears : about1.hears theMethod below0 = true := by decide +kernel
set_option maxRecDepth 65536 in
theorem w_ripe : about1.ripe theMethod args0 below0 = true := by decide +kernel
theorem w_running : about1.status = .running := rfl
set_option maxRecDepth 65536 in
theorem w_room : about1.hasRoom e0.platform room_1 = true :=
  launch0.hasRoom_least _ room_1 (by decide +kernel) (by decide +kernel) (by decide +kernel) (by decide +kernel) (by decide +kernel) (by decide +kernel)
theorem allAtoms_all (ts : List Jvm.Cond) (a : Array Jvm.Value) (st : Jvm.State) : (allAtoms ts).before a st = ts.all (fun c => c.before a st) := by
  induction ts with
  | nil => rfl
  | cons c t ih =>
    show (Jvm.Cond.and c (allAtoms t)).before a st = _
    rw [Jvm.Cond.before_and, ih, List.all_cons]
def words1 : List Jvm.Cond := Jvm.Cond.code x code maxLocals ret :: tables_1
/-- a 'code' word, met by the world's own term for the bytes: nothing is compared byte by byte -/
theorem code_word {y : MethodName} {bytes : ByteArray} {mx : Nat} {rt : Option FieldType} {a : Array Value} {s : State} {m : MethodId} {meth : Method} {c : Code} (h1 : s.methodNamed? y = some m) (h2 : s.vm.method? m = some meth) (h3 : meth.code = some c) (h4 : c.code = bytes)
    (h5 : (c.maxLocals == mx && c.exceptionTable.isEmpty && decide (c.maxStack ≤ mostOperands) && decide (meth.sig.returnType = rt) && !meth.locks && decide (parseMethodDescriptor y.desc = some meth.sig)) = true) : (Jvm.Cond.code y bytes mx rt).before a s = true := by
  simp only [Bool.and_eq_true, beq_iff_eq, Bool.not_eq_true', decide_eq_true_eq] at h5
  obtain ⟨⟨⟨⟨⟨g1, g2⟩, g3⟩, g4⟩, g5⟩, g6⟩ := h5
  simp [Cond.before, Cond.holds, Cond.value, h1, h2, h3, h4, g1, g2, g3, g4, g5, g6]
def isCode : Jvm.Cond → Bool
  | .code _ _ _ _ => true
  | _ => false
theorem all_split {L : List Jvm.Cond} {P : Jvm.Cond → Bool} (h1 : L.all (fun c => isCode c || P c) = true) (h2 : ∀ c ∈ L.filter isCode, P c = true) : L.all P = true := by
  refine List.all_eq_true.mpr fun c hc => ?_
  have h := List.all_eq_true.mp h1 c hc
  rcases Bool.eq_false_or_eq_true (isCode c) with hi | hi
  · exact h2 c (List.mem_filter.mpr ⟨hc, hi⟩)
  · simpa [hi] using h
set_option maxRecDepth 65536 in
theorem w_c0 : (Jvm.Cond.code x code maxLocals ret).before args0 about1 = true := code_word (m := ⟨1, 6⟩) (meth := k1m6) (c := k1c6) (by decide +kernel) rfl rfl rfl (by decide +kernel)
set_option maxRecDepth 65536 in
theorem w_c1 : (Jvm.Cond.code ({ cls := "com/example/usher/usher/FoundGoesOnPinLaw", name := "mk", desc := "(I)Ljava/lang/String;" } : Jvm.MethodName) method_5_code (2 : Nat) (Option.some (Jvm.ClassFile.FieldType.object "java/lang/String"))).before args0 about1 = true := code_word (m := ⟨1, 4⟩) (meth := k1m4) (c := k1c4) (by decide +kernel) rfl rfl rfl (by decide +kernel)
set_option maxRecDepth 65536 in
theorem w_c2 : (Jvm.Cond.code ({ cls := "com/example/usher/usher/FoundGoesOnPinLaw", name := "len", desc := "(I)I" } : Jvm.MethodName) method_2_code (1 : Nat) (Option.some Jvm.ClassFile.FieldType.int)).before args0 about1 = true := code_word (m := ⟨1, 1⟩) (meth := k1m1) (c := k1c1) (by decide +kernel) rfl rfl rfl (by decide +kernel)
set_option maxRecDepth 65536 in
theorem w_c3 : (Jvm.Cond.code ({ cls := "java/lang/String", name := "<init>", desc := "([C)V" } : Jvm.MethodName) jdk_42_method_3_code (2 : Nat) (Option.none : Option Jvm.ClassFile.FieldType)).before args0 about1 = true := code_word (m := ⟨9, 1⟩) (meth := k9m1) (c := k9c1) (by decide +kernel) rfl rfl rfl (by decide +kernel)
set_option maxRecDepth 65536 in
theorem w_c4 : (Jvm.Cond.code ({ cls := "java/lang/String", name := "<init>", desc := "([CIILjava/lang/Void;)V" } : Jvm.MethodName) jdk_42_method_149_code (6 : Nat) (Option.none : Option Jvm.ClassFile.FieldType)).before args0 about1 = true := code_word (m := ⟨9, 3⟩) (meth := k9m3) (c := k9c3) (by decide +kernel) rfl rfl rfl (by decide +kernel)
set_option maxRecDepth 65536 in
theorem w_c5 : (Jvm.Cond.code ({ cls := "java/lang/Object", name := "<init>", desc := "()V" } : Jvm.MethodName) object_method_1_code (1 : Nat) (Option.none : Option Jvm.ClassFile.FieldType)).before args0 about1 = true := code_word (m := ⟨0, 0⟩) (meth := k0m0) (c := k0c0) (by decide +kernel) rfl rfl rfl (by decide +kernel)
set_option maxRecDepth 65536 in
theorem w_c6 : (Jvm.Cond.code ({ cls := "com/example/usher/usher/OutboxRuns$Found", name := "<init>", desc := "(Ljava/lang/String;Ljava/lang/String;JJJZZ)V" } : Jvm.MethodName) prog_14_method_1_code (11 : Nat) (Option.none : Option Jvm.ClassFile.FieldType)).before args0 about1 = true := code_word (m := ⟨3, 0⟩) (meth := k3m0) (c := k3c0) (by decide +kernel) rfl rfl rfl (by decide +kernel)
set_option maxRecDepth 65536 in
theorem w_c7 : (Jvm.Cond.code ({ cls := "java/lang/Record", name := "<init>", desc := "()V" } : Jvm.MethodName) jdk_30_method_1_code (1 : Nat) (Option.none : Option Jvm.ClassFile.FieldType)).before args0 about1 = true := code_word (m := ⟨2, 0⟩) (meth := k2m0) (c := k2c0) (by decide +kernel) rfl rfl rfl (by decide +kernel)
set_option maxRecDepth 65536 in
theorem w_c8 : (Jvm.Cond.code ({ cls := "com/example/usher/usher/FoundGoesOnPinLaw", name := "c0", desc := "(I)C" } : Jvm.MethodName) method_3_code (1 : Nat) (Option.some Jvm.ClassFile.FieldType.char)).before args0 about1 = true := code_word (m := ⟨1, 2⟩) (meth := k1m2) (c := k1c2) (by decide +kernel) rfl rfl rfl (by decide +kernel)
set_option maxRecDepth 65536 in
theorem w_c9 : (Jvm.Cond.code ({ cls := "com/example/usher/usher/FoundGoesOnPinLaw", name := "c1", desc := "(I)C" } : Jvm.MethodName) method_4_code (1 : Nat) (Option.some Jvm.ClassFile.FieldType.char)).before args0 about1 = true := code_word (m := ⟨1, 3⟩) (meth := k1m3) (c := k1c3) (by decide +kernel) rfl rfl rfl (by decide +kernel)
set_option maxRecDepth 65536 in
theorem w_c10 : (Jvm.Cond.code ({ cls := "java/lang/StringUTF16", name := "compress", desc := "([CII)[B" } : Jvm.MethodName) jdk_52_method_16_code (6 : Nat) (Option.some (Jvm.ClassFile.FieldType.array Jvm.ClassFile.FieldType.byte))).before args0 about1 = true := code_word (m := ⟨11, 2⟩) (meth := k11m2) (c := k11c2) (by decide +kernel) rfl rfl rfl (by decide +kernel)
set_option maxRecDepth 65536 in
theorem w_c11 : (Jvm.Cond.code ({ cls := "java/lang/StringUTF16", name := "compress", desc := "([CI[BII)I" } : Jvm.MethodName) jdk_52_method_21_code (7 : Nat) (Option.some Jvm.ClassFile.FieldType.int)).before args0 about1 = true := code_word (m := ⟨11, 3⟩) (meth := k11m3) (c := k11c3) (by decide +kernel) rfl rfl rfl (by decide +kernel)
set_option maxRecDepth 65536 in
theorem w_c12 : (Jvm.Cond.code ({ cls := "java/lang/StringUTF16", name := "coderFromArrayLen", desc := "([BI)B" } : Jvm.MethodName) jdk_52_method_15_code (2 : Nat) (Option.some Jvm.ClassFile.FieldType.byte)).before args0 about1 = true := code_word (m := ⟨11, 1⟩) (meth := k11m1) (c := k11c1) (by decide +kernel) rfl rfl rfl (by decide +kernel)
set_option maxRecDepth 65536 in
theorem w_c13 : (Jvm.Cond.code ({ cls := "com/example/usher/usher/OutboxRuns$Run", name := "<init>", desc := "(Ljava/lang/String;Ljava/lang/String;JJJ)V" } : Jvm.MethodName) prog_16_method_1_code (9 : Nat) (Option.none : Option Jvm.ClassFile.FieldType)).before args0 about1 = true := code_word (m := ⟨10, 0⟩) (meth := k10m0) (c := k10c0) (by decide +kernel) rfl rfl rfl (by decide +kernel)
set_option maxRecDepth 65536 in
theorem w_c14 : (Jvm.Cond.code ({ cls := "com/example/usher/usher/OutboxRuns$Found", name := "goesOn", desc := "(Lcom/example/usher/usher/OutboxRuns$Run;)Z" } : Jvm.MethodName) prog_14_method_2_code (2 : Nat) (Option.some Jvm.ClassFile.FieldType.boolean)).before args0 about1 = true := code_word (m := ⟨3, 1⟩) (meth := k3m1) (c := k3c1) (by decide +kernel) rfl rfl rfl (by decide +kernel)
set_option maxRecDepth 65536 in
theorem w_c15 : (Jvm.Cond.code ({ cls := "com/example/usher/usher/FoundGoesOnPinLaw", name := "same", desc := "(II)Z" } : Jvm.MethodName) method_6_code (2 : Nat) (Option.some Jvm.ClassFile.FieldType.boolean)).before args0 about1 = true := code_word (m := ⟨1, 5⟩) (meth := k1m5) (c := k1c5) (by decide +kernel) rfl rfl rfl (by decide +kernel)
set_option maxRecDepth 65536 in
theorem w_c16 : (Jvm.Cond.code ({ cls := "com/example/usher/usher/OutboxRuns$Run", name := "aggregateType", desc := "()Ljava/lang/String;" } : Jvm.MethodName) prog_16_method_5_code (1 : Nat) (Option.some (Jvm.ClassFile.FieldType.object "java/lang/String"))).before args0 about1 = true := code_word (m := ⟨10, 1⟩) (meth := k10m1) (c := k10c1) (by decide +kernel) rfl rfl rfl (by decide +kernel)
set_option maxRecDepth 65536 in
theorem w_c17 : (Jvm.Cond.code ({ cls := "java/lang/String", name := "equals", desc := "(Ljava/lang/Object;)Z" } : Jvm.MethodName) jdk_42_method_66_code (3 : Nat) (Option.some Jvm.ClassFile.FieldType.boolean)).before args0 about1 = true := code_word (m := ⟨9, 2⟩) (meth := k9m2) (c := k9c2) (by decide +kernel) rfl rfl rfl (by decide +kernel)
set_option maxRecDepth 65536 in
theorem w_c18 : (Jvm.Cond.code ({ cls := "java/lang/StringLatin1", name := "equals", desc := "([B[B)Z" } : Jvm.MethodName) jdk_43_method_13_code (3 : Nat) (Option.some Jvm.ClassFile.FieldType.boolean)).before args0 about1 = true := code_word (m := ⟨12, 1⟩) (meth := k12m1) (c := k12c1) (by decide +kernel) rfl rfl rfl (by decide +kernel)
set_option maxRecDepth 65536 in
theorem w_c19 : (Jvm.Cond.code ({ cls := "com/example/usher/usher/OutboxRuns$Run", name := "aggregateId", desc := "()Ljava/lang/String;" } : Jvm.MethodName) prog_16_method_6_code (1 : Nat) (Option.some (Jvm.ClassFile.FieldType.object "java/lang/String"))).before args0 about1 = true := code_word (m := ⟨10, 2⟩) (meth := k10m2) (c := k10c2) (by decide +kernel) rfl rfl rfl (by decide +kernel)
def codes1 : List Jvm.Cond := [Jvm.Cond.code x code maxLocals ret, Jvm.Cond.code ({ cls := "com/example/usher/usher/FoundGoesOnPinLaw", name := "mk", desc := "(I)Ljava/lang/String;" } : Jvm.MethodName) method_5_code (2 : Nat) (Option.some (Jvm.ClassFile.FieldType.object "java/lang/String")), Jvm.Cond.code ({ cls := "com/example/usher/usher/FoundGoesOnPinLaw", name := "len", desc := "(I)I" } : Jvm.MethodName) method_2_code (1 : Nat) (Option.some Jvm.ClassFile.FieldType.int), Jvm.Cond.code ({ cls := "java/lang/String", name := "<init>", desc := "([C)V" } : Jvm.MethodName) jdk_42_method_3_code (2 : Nat) (Option.none : Option Jvm.ClassFile.FieldType), Jvm.Cond.code ({ cls := "java/lang/String", name := "<init>", desc := "([CIILjava/lang/Void;)V" } : Jvm.MethodName) jdk_42_method_149_code (6 : Nat) (Option.none : Option Jvm.ClassFile.FieldType), Jvm.Cond.code ({ cls := "java/lang/Object", name := "<init>", desc := "()V" } : Jvm.MethodName) object_method_1_code (1 : Nat) (Option.none : Option Jvm.ClassFile.FieldType), Jvm.Cond.code ({ cls := "com/example/usher/usher/OutboxRuns$Found", name := "<init>", desc := "(Ljava/lang/String;Ljava/lang/String;JJJZZ)V" } : Jvm.MethodName) prog_14_method_1_code (11 : Nat) (Option.none : Option Jvm.ClassFile.FieldType), Jvm.Cond.code ({ cls := "java/lang/Record", name := "<init>", desc := "()V" } : Jvm.MethodName) jdk_30_method_1_code (1 : Nat) (Option.none : Option Jvm.ClassFile.FieldType), Jvm.Cond.code ({ cls := "com/example/usher/usher/FoundGoesOnPinLaw", name := "c0", desc := "(I)C" } : Jvm.MethodName) method_3_code (1 : Nat) (Option.some Jvm.ClassFile.FieldType.char), Jvm.Cond.code ({ cls := "com/example/usher/usher/FoundGoesOnPinLaw", name := "c1", desc := "(I)C" } : Jvm.MethodName) method_4_code (1 : Nat) (Option.some Jvm.ClassFile.FieldType.char), Jvm.Cond.code ({ cls := "java/lang/StringUTF16", name := "compress", desc := "([CII)[B" } : Jvm.MethodName) jdk_52_method_16_code (6 : Nat) (Option.some (Jvm.ClassFile.FieldType.array Jvm.ClassFile.FieldType.byte)), Jvm.Cond.code ({ cls := "java/lang/StringUTF16", name := "compress", desc := "([CI[BII)I" } : Jvm.MethodName) jdk_52_method_21_code (7 : Nat) (Option.some Jvm.ClassFile.FieldType.int), Jvm.Cond.code ({ cls := "java/lang/StringUTF16", name := "coderFromArrayLen", desc := "([BI)B" } : Jvm.MethodName) jdk_52_method_15_code (2 : Nat) (Option.some Jvm.ClassFile.FieldType.byte), Jvm.Cond.code ({ cls := "com/example/usher/usher/OutboxRuns$Run", name := "<init>", desc := "(Ljava/lang/String;Ljava/lang/String;JJJ)V" } : Jvm.MethodName) prog_16_method_1_code (9 : Nat) (Option.none : Option Jvm.ClassFile.FieldType), Jvm.Cond.code ({ cls := "com/example/usher/usher/OutboxRuns$Found", name := "goesOn", desc := "(Lcom/example/usher/usher/OutboxRuns$Run;)Z" } : Jvm.MethodName) prog_14_method_2_code (2 : Nat) (Option.some Jvm.ClassFile.FieldType.boolean), Jvm.Cond.code ({ cls := "com/example/usher/usher/FoundGoesOnPinLaw", name := "same", desc := "(II)Z" } : Jvm.MethodName) method_6_code (2 : Nat) (Option.some Jvm.ClassFile.FieldType.boolean), Jvm.Cond.code ({ cls := "com/example/usher/usher/OutboxRuns$Run", name := "aggregateType", desc := "()Ljava/lang/String;" } : Jvm.MethodName) prog_16_method_5_code (1 : Nat) (Option.some (Jvm.ClassFile.FieldType.object "java/lang/String")), Jvm.Cond.code ({ cls := "java/lang/String", name := "equals", desc := "(Ljava/lang/Object;)Z" } : Jvm.MethodName) jdk_42_method_66_code (3 : Nat) (Option.some Jvm.ClassFile.FieldType.boolean), Jvm.Cond.code ({ cls := "java/lang/StringLatin1", name := "equals", desc := "([B[B)Z" } : Jvm.MethodName) jdk_43_method_13_code (3 : Nat) (Option.some Jvm.ClassFile.FieldType.boolean), Jvm.Cond.code ({ cls := "com/example/usher/usher/OutboxRuns$Run", name := "aggregateId", desc := "()Ljava/lang/String;" } : Jvm.MethodName) prog_16_method_6_code (1 : Nat) (Option.some (Jvm.ClassFile.FieldType.object "java/lang/String"))]
set_option maxRecDepth 65536 in
theorem codes_eq : words1.filter isCode = codes1 := rfl
theorem w_codes : ∀ c ∈ words1.filter isCode, c.before args0 about1 = true := by
  rw [codes_eq]
  intro c hc
  simp only [codes1, List.mem_cons, List.not_mem_nil, or_false] at hc
  rcases hc with rfl | rfl | rfl | rfl | rfl | rfl | rfl | rfl | rfl | rfl | rfl | rfl | rfl | rfl | rfl | rfl | rfl | rfl | rfl | rfl
  · exact w_c0
  · exact w_c1
  · exact w_c2
  · exact w_c3
  · exact w_c4
  · exact w_c5
  · exact w_c6
  · exact w_c7
  · exact w_c8
  · exact w_c9
  · exact w_c10
  · exact w_c11
  · exact w_c12
  · exact w_c13
  · exact w_c14
  · exact w_c15
  · exact w_c16
  · exact w_c17
  · exact w_c18
  · exact w_c19
set_option maxRecDepth 65536 in
theorem w_t1 : (words1.take 24).all (fun c => isCode c || c.before args0 about1) = true := by decide +kernel
set_option maxRecDepth 65536 in
theorem w_t2 : ((words1.drop 24).take 24).all (fun c => isCode c || c.before args0 about1) = true := by decide +kernel
set_option maxRecDepth 65536 in
theorem w_t3 : (((words1.drop 24).drop 24).take 24).all (fun c => isCode c || c.before args0 about1) = true := by decide +kernel
set_option maxRecDepth 65536 in
theorem w_t4 : ((((words1.drop 24).drop 24).drop 24).take 24).all (fun c => isCode c || c.before args0 about1) = true := by decide +kernel
set_option maxRecDepth 65536 in
theorem w_t5 : ((((words1.drop 24).drop 24).drop 24).drop 24).all (fun c => isCode c || c.before args0 about1) = true := by decide +kernel
theorem w_tables : (allAtoms (Jvm.Cond.code x code maxLocals ret :: tables_1)).before args0 about1 = true := by
  rw [allAtoms_all]
  show words1.all (fun c => c.before args0 about1) = true
  refine all_split ?_ w_codes
  rw [← List.take_append_drop 24 words1, List.all_append, w_t1, ← List.take_append_drop 24 (words1.drop 24), List.all_append, w_t2, ← List.take_append_drop 24 ((words1.drop 24).drop 24), List.all_append, w_t3, ← List.take_append_drop 24 (((words1.drop 24).drop 24).drop 24), List.all_append, w_t4, w_t5]
  rfl
set_option maxRecDepth 65536 in
theorem w_rest : rest_1_c.before args0 about1 = true := by decide +kernel
set_option maxRecDepth 65536 in
theorem w_case : (Jvm.Cond.and given_1 narrow_1).before args0 about1 = true := by decide +kernel
set_option maxRecDepth 65536 in
theorem w_consts : constsHeld consts_1 about1 := Jvm.Lit.constsHeldB_iff.mp (by decide +kernel)
theorem w_applies : (headSpec (Jvm.Cond.code x code maxLocals ret :: tables_1) room_1).applies x e0.platform about1 = true :=
  (Spec.applies_iff w_frames).mpr ⟨w_running, w_runnable, w_alone, w_named, w_hears, w_ripe, w_room, w_tables⟩
theorem atStart : AtStart classFile x code maxLocals ret World_1 tables_1 room_1 Calls_1 rest_1 Pre_1 launch0 p0 e0 about1 theMethod args0 below0 :=
  ⟨lists_1, trivial, launch0.admits_env _ _ _, launch0.least_env, fairChoices_fair.cas, fairChoices_fair.clock, w_frames, w_args, w_heap, w_applies, ⟨w_consts, trivial⟩, w_rest, w_case⟩
end start1
theorem witness_1 : WitnessClaimed_1 := ⟨start1.p0, start1.e0, start1.about1, start1.theMethod, start1.args0, start1.below0, start1.atStart⟩
end Jvm.Pilot.@@N@@
