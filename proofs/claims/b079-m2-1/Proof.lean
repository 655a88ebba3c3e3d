import JvmDerived
import JvmDerived.Pilot.@@N@@Statement
import JvmDerived.Pilot.@@N@@Code
set_option linter.unusedVariables false
set_option linter.unusedSimpArgs false
/- laws to paste: Road.backV (cut by pick.py; bodies as the Statement names them) -/
namespace Jvm.Pilot.@@N@@
namespace StrChars
open Jvm Sem ClassFile Op Lib Jvm.Stand Jvm.Free.XT Jvm.Free.ALB Jvm.Free.JM Jvm.Free
open Jvm.Lib.Cold (StaticIs)
/-- a char array whose places are chars -/
def Ch (a : Addr) (A : Cell) (U : State) : Prop := Arr .char a A U ∧ Typed .char A
theorem Ch.mv {a : Addr} {A : Cell} {U U' : State} (h : Ch a A U) (hal : U.vm.Alike U'.vm) (hh : U'.heap = U.heap) : Ch a A U' := ⟨h.1.mv hal hh, h.2⟩
theorem Ch.keep {a : Addr} {A : Cell} {U U' : State} (h : Ch a A U) (hal : U.vm.Alike U'.vm) (hk : U'.heap[a]? = some A) : Ch a A U' := ⟨h.1.keep hal hk, h.2⟩
/-- what place i of a char[]'s cell holds -/
def cv (A : Cell) (i : Nat) : Int32 := match A.slots[i]? with | some (.int x) => x | _ => 0
theorem Ch.get {a : Addr} {A : Cell} {U : State} (h : Ch a A U) {i : Nat} (hi : i < A.slots.size) : A.slots[i]? = some (.int (cv A i)) := by
  have e := Array.getElem?_eq_getElem hi
  have f := h.2 i _ e
  unfold cv; rw [e]
  generalize A.slots[i] = v at f
  cases v <;> simp [fits] at f ⊢
/-- the byte that i2b leaves of a char -/
def lo8 (x : Int32) : Int32 := x.toInt8.toInt32
theorem fits_lo8 (y : Int32) : fits .byte (.int (lo8 y)) = true := by
  have h1 := y.toInt8.le_toInt
  have h2 := y.toInt8.toInt_lt
  simp only [lo8, fits, Bool.and_eq_true, decide_eq_true_eq, Int32.le_iff_toInt_le, Int8.toInt_toInt32, show (-128 : Int32).toInt = -128 from by decide, show (127 : Int32).toInt = 127 from by decide]
  omega
/-- A' is A but that each place j of lo .. hi - 1 holds f j -/
def Laid (A A' : Cell) (lo hi : Nat) (f : Nat → Value) : Prop := A'.cls = A.cls ∧ A'.vm = A.vm ∧ A'.slots.size = A.slots.size ∧ ∀ i, A'.slots[i]? = if lo ≤ i ∧ i < hi then some (f i) else A.slots[i]?
theorem Laid.zero (A : Cell) (lo : Nat) (f : Nat → Value) : Laid A A lo (lo + 0) f := ⟨rfl, rfl, rfl, fun i => by rw [if_neg (by omega)]⟩
theorem Laid.step {A Ak : Cell} {lo k : Nat} {f : Nat → Value} {v : Value} (h : Laid A Ak lo k f) (hlo : lo ≤ k) (hk : k < Ak.slots.size) (hv : v = f k) : Laid A (Ak.setSlot k v) lo (k + 1) f := by
  refine ⟨h.1, h.2.1, by simpa [Cell.setSlot] using h.2.2.1, fun i => ?_⟩
  by_cases e : k = i
  · subst e; rw [Cell.slots_setSlot_self v hk, if_pos (by omega), hv]
  · rw [Cell.slots_setSlot_ne v e, h.2.2.2 i]
    by_cases q : lo ≤ i ∧ i < k
    · rw [if_pos q, if_pos (by omega)]
    · rw [if_neg q, if_neg (by omega)]
def U16 : String := "java/lang/StringUTF16"
namespace Cmp5
def yN : MethodName := ⟨"java/lang/StringUTF16", "compress", "([CI[BII)I"⟩
abbrev yB : ByteArray := jdk_52_method_21_code
theorem d0 : decode yB 0 = .ok (.iconst 0, 1) := by decide +kernel
theorem d1 : decode yB 1 = .ok (.istore 5, 2) := by decide +kernel
theorem d3 : decode yB 3 = .ok (.iload 5, 2) := by decide +kernel
theorem d5 : decode yB 5 = .ok (.iload 4, 2) := by decide +kernel
theorem d7 : decode yB 7 = .ok (.if_icmp (.ge) 37, 3) := by decide +kernel
theorem d10 : decode yB 10 = .ok (.aload_n 0, 1) := by decide +kernel
theorem d11 : decode yB 11 = .ok (.iload_n 1, 1) := by decide +kernel
theorem d12 : decode yB 12 = .ok (.caload, 1) := by decide +kernel
theorem d13 : decode yB 13 = .ok (.istore 6, 2) := by decide +kernel
theorem d15 : decode yB 15 = .ok (.iload 6, 2) := by decide +kernel
theorem d17 : decode yB 17 = .ok (.sipush 255, 3) := by decide +kernel
theorem d20 : decode yB 20 = .ok (.if_icmp (.le) 6, 3) := by decide +kernel
theorem d26 : decode yB 26 = .ok (.aload_n 2, 1) := by decide +kernel
theorem d27 : decode yB 27 = .ok (.iload_n 3, 1) := by decide +kernel
theorem d28 : decode yB 28 = .ok (.iload 6, 2) := by decide +kernel
theorem d30 : decode yB 30 = .ok (.i2b, 1) := by decide +kernel
theorem d31 : decode yB 31 = .ok (.bastore, 1) := by decide +kernel
theorem d32 : decode yB 32 = .ok (.iinc 1 1, 3) := by decide +kernel
theorem d35 : decode yB 35 = .ok (.iinc 3 1, 3) := by decide +kernel
theorem d38 : decode yB 38 = .ok (.iinc 5 1, 3) := by decide +kernel
theorem d41 : decode yB 41 = .ok (.goto (-38), 3) := by decide +kernel
theorem d44 : decode yB 44 = .ok (.iload 4, 2) := by decide +kernel
theorem d46 : decode yB 46 = .ok (.ireturn, 1) := by decide +kernel
def site : List Cond := []
def tab : Cond := tabOf yN yB 7 (some .int) site
def P (b : Addr) (A : Cell) (d : Addr) (B : Cell) (o q len : Nat) (args : Array Value) (s : State) : Prop := args = #[.ref b, .int (Int32.ofNat o), .ref d, .int (Int32.ofNat q), .int (Int32.ofNat len)] ∧ Ch b A s ∧ Arr .byte d B s ∧ b ≠ d ∧ o + len ≤ A.slots.size ∧ q + len ≤ B.slots.size ∧ ∀ i, i < len → ¬ 255 < cv A (o + i)
def E (b : Addr) (A : Cell) (d : Addr) (B : Cell) (o q len : Nat) (r : Option Value) (s u : State) : Prop := r = some (.int (Int32.ofNat len)) ∧ ∃ B', Put d B' s u ∧ Laid B B' q (q + len) (fun j => Value.int (lo8 (cv A (o + (j - q)))))
/-- no char of the range above 255: len; the places written hold each char's low byte -/
theorem law (l : Launch) (b : Addr) (A : Cell) (d : Addr) (B : Cell) (o q len : Nat) : Law l yN 5 5 0 0 yB 7 (some .int) site (P b A d B o q len) (E b A d B o q len) (copyLocs d q len) 0 0 := by
  refine Law.of_walk (plainFor_of_name (by decide +kernel)) (by decide +kernel) (by decide +kernel) (by decide) (fun _ _ h => by rw [h.1]; rfl) (fun _ U U' hal hh h => ⟨h.1, h.2.1.mv hal hh, h.2.2.1.mv hal hh, h.2.2.2⟩) (fun r U U' V V' h1 hal h2 h => ⟨h.1, h.2.elim fun B' q => ⟨B', q.1.mv h1 h2, q.2⟩⟩) ?_
  intro p e s m args below meth c s₁ X0 hexec hbytes hml hret hlk hnm hown hh0 W hP
  obtain ⟨rfl, hA, hB, hne, l1, l2, hp⟩ := hP
  have c1 : Steps p.tables e below (s₁.setTop (entryFrame m #[.ref b, .int (Int32.ofNat o), .ref d, .int (Int32.ofNat q), .int (Int32.ofNat len)] 7)) (s₁.setTop (mkF m 0 #[.val (.ref b), .val (.int (Int32.ofNat o)), .val (.ref d), .val (.int (Int32.ofNat q)), .val (.int (Int32.ofNat len)), .unset, .unset] [])) := entry rfl
  have hA0 := hA.1.mv X0.warmed.alike hh0
  have hB0 := hB.mv X0.warmed.alike hh0
  have a31 := hA.1.2.2.2
  have c2 : Steps p.tables e below (s₁.setTop (entryFrame m #[.ref b, .int (Int32.ofNat o), .ref d, .int (Int32.ofNat q), .int (Int32.ofNat len)] 7)) (s₁.setTop (mkF m 3 #[.val (.ref b), .val (.int (Int32.ofNat o)), .val (.ref d), .val (.int (Int32.ofNat q)), .val (.int (Int32.ofNat len)), .val (.int 0), .unset] [])) := c1.trans (by
    refine iconstV X0.here hexec rfl 0 (hb hbytes d0) (by decide) ?_
    refine XS.istore X0.here hexec rfl (hb hbytes d1) rfl rfl ?_
    exact Steps.refl _)
  have loop : ∀ (r i : Nat), i + r = len → ∀ (z : Slot), (z = .unset ∨ ∃ w, z = .val w ∧ w.category = 1) → ∀ (Tl : State) (Bk : Cell), Stand p l e { frames := 0, locals := 0, cells := 0, slots := 0 } s m #[.ref b, .int (Int32.ofNat o), .ref d, .int (Int32.ofNat q), .int (Int32.ofNat len)] below meth c Tl ([] ++ copyLocs d q i) 0 0 → Put d Bk s₁ Tl → Laid B Bk q (q + i) (fun j => Value.int (lo8 (cv A (o + (j - q))))) →
      Steps p.tables e below (s₁.setTop (entryFrame m #[.ref b, .int (Int32.ofNat o), .ref d, .int (Int32.ofNat q), .int (Int32.ofNat len)] 7)) (Tl.setTop (mkF m 3 #[.val (.ref b), .val (.int (Int32.ofNat (o + i))), .val (.ref d), .val (.int (Int32.ofNat (q + i))), .val (.int (Int32.ofNat len)), .val (.int (Int32.ofNat i)), z] [])) → ∃ (T' : State) (B' : Cell) (z' : Slot), Stand p l e { frames := 0, locals := 0, cells := 0, slots := 0 } s m #[.ref b, .int (Int32.ofNat o), .ref d, .int (Int32.ofNat q), .int (Int32.ofNat len)] below meth c T' ([] ++ copyLocs d q len) 0 0 ∧ Put d B' s₁ T' ∧ Laid B B' q (q + len) (fun j => Value.int (lo8 (cv A (o + (j - q))))) ∧
      Steps p.tables e below (s₁.setTop (entryFrame m #[.ref b, .int (Int32.ofNat o), .ref d, .int (Int32.ofNat q), .int (Int32.ofNat len)] 7)) (T'.setTop (mkF m 3 #[.val (.ref b), .val (.int (Int32.ofNat (o + len))), .val (.ref d), .val (.int (Int32.ofNat (q + len))), .val (.int (Int32.ofNat len)), .val (.int (Int32.ofNat len)), z'] [])) := by
    intro r
    induction r with
    | zero =>
      intro i hi z hz Tl Bk Xl pl fl cl
      have hil : i = len := by omega
      rw [hil] at Xl fl cl
      exact ⟨Tl, Bk, z, Xl, pl, fl, cl⟩
    | succ r ih =>
      intro i hi z hz Tl Bk Xl pl fl cl
      have all := X0.warmed.alike.symm.trans Xl.warmed.alike
      have hAl := hA0.keep all (pl.other hne hA0.1)
      have hBk := hB0.like all pl.1 fl.1 fl.2.1 fl.2.2.1
      have hlt : q + i < Bk.slots.size := by rw [fl.2.2.1]; omega
      have c3 : Steps p.tables e below (s₁.setTop (entryFrame m #[.ref b, .int (Int32.ofNat o), .ref d, .int (Int32.ofNat q), .int (Int32.ofNat len)] 7)) (Tl.setTop (mkF m 12 #[.val (.ref b), .val (.int (Int32.ofNat (o + i))), .val (.ref d), .val (.int (Int32.ofNat (q + i))), .val (.int (Int32.ofNat len)), .val (.int (Int32.ofNat i)), z] [.int (Int32.ofNat (o + i)), .ref b])) := cl.trans (by
        refine XS.iload Xl.here hexec rfl (hb hbytes d3) rfl ?_
        refine XS.iload Xl.here hexec rfl (hb hbytes d5) rfl ?_
        refine XS.icmpNo Xl.here hexec rfl (hb hbytes d7) rfl (ii_ge_f (lt32 (by omega) (by omega))) ?_
        refine XS.aloadN Xl.here hexec rfl (hb hbytes d10) rfl rfl ?_
        refine XS.iloadN Xl.here hexec rfl (hb hbytes d11) rfl ?_
        exact Steps.refl _)
      have c4 : Steps p.tables e below (s₁.setTop (entryFrame m #[.ref b, .int (Int32.ofNat o), .ref d, .int (Int32.ofNat q), .int (Int32.ofNat len)] 7)) (Tl.setTop (mkF m 13 #[.val (.ref b), .val (.int (Int32.ofNat (o + i))), .val (.ref d), .val (.int (Int32.ofNat (q + i))), .val (.int (Int32.ofNat len)), .val (.int (Int32.ofNat i)), z] [.int (cv A (o + i))])) := c3.trans (by
        refine Xl.aget hexec hAl rfl (hA.get (i := o + i) (by omega)) rfl rfl (hb hbytes d12) ?_
        exact Steps.refl _)
      have c5 : Steps p.tables e below (s₁.setTop (entryFrame m #[.ref b, .int (Int32.ofNat o), .ref d, .int (Int32.ofNat q), .int (Int32.ofNat len)] 7)) (Tl.setTop (mkF m 15 #[.val (.ref b), .val (.int (Int32.ofNat (o + i))), .val (.ref d), .val (.int (Int32.ofNat (q + i))), .val (.int (Int32.ofNat len)), .val (.int (Int32.ofNat i)), .val (.int (cv A (o + i)))] [])) := c4.trans (by
        refine XS.istoreS Xl.here hexec rfl (hb hbytes d13) rfl rfl hz ?_
        exact Steps.refl _)
      have c6 : Steps p.tables e below (s₁.setTop (entryFrame m #[.ref b, .int (Int32.ofNat o), .ref d, .int (Int32.ofNat q), .int (Int32.ofNat len)] 7)) (Tl.setTop (mkF m 31 #[.val (.ref b), .val (.int (Int32.ofNat (o + i))), .val (.ref d), .val (.int (Int32.ofNat (q + i))), .val (.int (Int32.ofNat len)), .val (.int (Int32.ofNat i)), .val (.int (cv A (o + i)))] [.int (lo8 (cv A (o + i))), .int (Int32.ofNat (q + i)), .ref d])) := c5.trans (by
        refine XS.iload Xl.here hexec rfl (hb hbytes d15) rfl ?_
        refine sipushV Xl.here hexec rfl 255 (hb hbytes d17) (by decide) ?_
        refine XS.icmpYes Xl.here hexec rfl (pc0 := 20) rfl (hb hbytes d20) rfl (ii_le_t (hp i (by omega))) (by decide) rfl ?_
        refine XS.aloadN Xl.here hexec rfl (hb hbytes d26) rfl rfl ?_
        refine XS.iloadN Xl.here hexec rfl (hb hbytes d27) rfl ?_
        refine XS.iload Xl.here hexec rfl (hb hbytes d28) rfl ?_
        refine i2b Xl.here hexec rfl (hb hbytes d30) rfl ?_
        exact Steps.refl _)
      obtain ⟨T7, X7, p7, st7⟩ := Xl.aput hexec hBk rfl hlt rfl (fits_lo8 (cv A (o + i))) (g := (mkF m 31 #[.val (.ref b), .val (.int (Int32.ofNat (o + i))), .val (.ref d), .val (.int (Int32.ofNat (q + i))), .val (.int (Int32.ofNat len)), .val (.int (Int32.ofNat i)), .val (.int (cv A (o + i)))] [.int (lo8 (cv A (o + i))), .int (Int32.ofNat (q + i)), .ref d])) rfl (rest := []) rfl (hb hbytes d31)
      have c8 : Steps p.tables e below (s₁.setTop (entryFrame m #[.ref b, .int (Int32.ofNat o), .ref d, .int (Int32.ofNat q), .int (Int32.ofNat len)] 7)) (T7.setTop (mkF m 32 #[.val (.ref b), .val (.int (Int32.ofNat (o + i))), .val (.ref d), .val (.int (Int32.ofNat (q + i))), .val (.int (Int32.ofNat len)), .val (.int (Int32.ofNat i)), .val (.int (cv A (o + i)))] [])) := c6.trans (st7 _ (Steps.refl _))
      have c9 : Steps p.tables e below (s₁.setTop (entryFrame m #[.ref b, .int (Int32.ofNat o), .ref d, .int (Int32.ofNat q), .int (Int32.ofNat len)] 7)) (T7.setTop (mkF m 3 #[.val (.ref b), .val (.int (Int32.ofNat (o + i) + 1)), .val (.ref d), .val (.int (Int32.ofNat (q + i) + 1)), .val (.int (Int32.ofNat len)), .val (.int (Int32.ofNat i + 1)), .val (.int (cv A (o + i)))] [])) := c8.trans (by
        refine iincV X7.here hexec rfl 1 (hb hbytes d32) (by decide) rfl rfl ?_
        refine iincV X7.here hexec rfl 1 (hb hbytes d35) (by decide) rfl rfl ?_
        refine iincV X7.here hexec rfl 1 (hb hbytes d38) (by decide) rfl rfl ?_
        refine XS.goto X7.here hexec rfl (pc0 := 41) rfl (hb hbytes d41) (by decide) rfl ?_
        exact Steps.refl _)
      have c10 : Steps p.tables e below (s₁.setTop (entryFrame m #[.ref b, .int (Int32.ofNat o), .ref d, .int (Int32.ofNat q), .int (Int32.ofNat len)] 7)) (T7.setTop (mkF m 3 #[.val (.ref b), .val (.int (Int32.ofNat (o + (i + 1)))), .val (.ref d), .val (.int (Int32.ofNat (q + (i + 1)))), .val (.int (Int32.ofNat len)), .val (.int (Int32.ofNat (i + 1))), .val (.int (cv A (o + i)))] [])) := by
        have := c9
        rw [succ32, succ32, succ32] at this
        exact this
      exact ih (i + 1) (by omega) _ (Or.inr ⟨_, rfl, rfl⟩) T7 _ (by rw [copyLocs_step, ← List.append_assoc]; exact X7) (pl.trans p7) (fl.step (by omega) hlt (by simp)) c10
  obtain ⟨T9, B9, z9, X9, p9, f9, g9⟩ := loop len 0 (by omega) .unset (Or.inl rfl) s₁ B (by simpa [copyLocs] using X0) ⟨hB0.1, fun _ _ => rfl, rfl⟩ (Laid.zero _ _ _) c2
  have c11 : Steps p.tables e below (s₁.setTop (entryFrame m #[.ref b, .int (Int32.ofNat o), .ref d, .int (Int32.ofNat q), .int (Int32.ofNat len)] 7)) (T9.setTop (mkF m 46 #[.val (.ref b), .val (.int (Int32.ofNat (o + len))), .val (.ref d), .val (.int (Int32.ofNat (q + len))), .val (.int (Int32.ofNat len)), .val (.int (Int32.ofNat len)), z9] [.int (Int32.ofNat len)])) := g9.trans (by
    refine XS.iload X9.here hexec rfl (hb hbytes d3) rfl ?_
    refine XS.iload X9.here hexec rfl (hb hbytes d5) rfl ?_
    refine XS.icmpYes X9.here hexec rfl (pc0 := 7) rfl (hb hbytes d7) rfl (ii_ge_t (nlt32 (by omega) (Nat.le_refl _))) (by decide) rfl ?_
    refine XS.iload X9.here hexec rfl (hb hbytes d44) rfl ?_
    exact Steps.refl _)
  exact ⟨T9, some (.int (Int32.ofNat len)), _, _, _, X9, by simp, rfl, rfl, (fun h => by cases h), ⟨rfl, B9, p9.from hh0, f9⟩, fun fs hl => c11.trans (X9.ireturnOut hexec hret rfl (Or.inl rfl) (hb hbytes d46) hl)⟩
end Cmp5
namespace Cmp3
def yN : MethodName := ⟨"java/lang/StringUTF16", "compress", "([CII)[B"⟩
abbrev yB : ByteArray := jdk_52_method_16_code
theorem d0 : decode yB 0 = .ok (.iload_n 2, 1) := by decide +kernel
theorem d1 : decode yB 1 = .ok (.newarray .byte, 2) := by decide +kernel
theorem d3 : decode yB 3 = .ok (.astore_n 3, 1) := by decide +kernel
theorem d4 : decode yB 4 = .ok (.aload_n 0, 1) := by decide +kernel
theorem d5 : decode yB 5 = .ok (.iload_n 1, 1) := by decide +kernel
theorem d6 : decode yB 6 = .ok (.aload_n 3, 1) := by decide +kernel
theorem d7 : decode yB 7 = .ok (.iconst 0, 1) := by decide +kernel
theorem d8 : decode yB 8 = .ok (.iload_n 2, 1) := by decide +kernel
theorem d9 : decode yB 9 = .ok (.invokestatic 115, 3) := by decide +kernel
theorem d12 : decode yB 12 = .ok (.istore 4, 2) := by decide +kernel
theorem d14 : decode yB 14 = .ok (.iload 4, 2) := by decide +kernel
theorem d16 : decode yB 16 = .ok (.iload_n 2, 1) := by decide +kernel
theorem d17 : decode yB 17 = .ok (.if_icmp (.eq) 40, 3) := by decide +kernel
theorem d57 : decode yB 57 = .ok (.aload_n 3, 1) := by decide +kernel
theorem d58 : decode yB 58 = .ok (.areturn, 1) := by decide +kernel
def site : List Cond := [.arrayClass .byte, Cmp5.tab] ++ staticW U16 115 Cmp5.yN
def tab : Cond := tabOf yN yB 6 (some (.array .byte)) site
def P (b : Addr) (A : Cell) (o len : Nat) (args : Array Value) (s : State) : Prop := args = #[.ref b, .int (Int32.ofNat o), .int (Int32.ofNat len)] ∧ Ch b A s ∧ o + len ≤ A.slots.size ∧ len ≤ 536870912 ∧ ∀ i, i < len → ¬ 255 < cv A (o + i)
def E (b : Addr) (A : Cell) (o len : Nat) (r : Option Value) (s u : State) : Prop := NewArr .byte "[B" len (fun j => .int (lo8 (cv A (o + j)))) r s u ∧ u.heap.size = s.heap.size + 1
/-- no char of the range above 255: a new byte[] of their low bytes -/
theorem law (l : Launch) (b : Addr) (A : Cell) (o len : Nat) : Law l yN 3 3 1 18 yB 6 (some (.array .byte)) site (P b A o len) (E b A o len) [] 1 len := by
  refine Law.of_walk (plainFor_of_name (by decide +kernel)) (by decide +kernel) (by decide +kernel) (by decide) (fun _ _ h => by rw [h.1]; rfl) (fun _ U U' hal hh h => ⟨h.1, h.2.1.mv hal hh, h.2.2⟩) (fun r U U' V V' h1 hal h2 h => ⟨NewArr.mv r U U' V V' h1 hal h2 h.1, by rw [h1, h2]; exact h.2⟩) ?_
  intro p e s m args below meth c s₁ X0 hexec hbytes hml hret hlk hnm hown hh0 W hP
  obtain ⟨rfl, hA, l1, l2, hp⟩ := hP
  have a31 := hA.1.2.2.2
  have c1 : Steps p.tables e below (s₁.setTop (entryFrame m #[.ref b, .int (Int32.ofNat o), .int (Int32.ofNat len)] 6)) (s₁.setTop (mkF m 0 #[.val (.ref b), .val (.int (Int32.ofNat o)), .val (.int (Int32.ofNat len)), .unset, .unset, .unset] [])) := entry rfl
  have c2 : Steps p.tables e below (s₁.setTop (entryFrame m #[.ref b, .int (Int32.ofNat o), .int (Int32.ofNat len)] 6)) (s₁.setTop (mkF m 1 #[.val (.ref b), .val (.int (Int32.ofNat o)), .val (.int (Int32.ofNat len)), .unset, .unset, .unset] [.int (Int32.ofNat len)])) := c1.trans (by
    refine XS.iloadN X0.here hexec rfl (hb hbytes d0) rfl ?_
    exact Steps.refl _)
  obtain ⟨T3, B3, X3, ba3, bs3, bv3, bh3, bf3, st3⟩ := X0.anew hexec (atype := .byte) (wk W (.arrayClass .byte)) rfl (by show len * 1 ≤ _; omega) (by omega) (g := (mkF m 1 #[.val (.ref b), .val (.int (Int32.ofNat o)), .val (.int (Int32.ofNat len)), .unset, .unset, .unset] [.int (Int32.ofNat len)])) rfl (hb hbytes d1) (rest := []) rfl (Nat.le_refl _) (by show 0 + len ≤ len; omega)
  rw [hh0] at ba3 st3
  have kp3 : XT.Kept s T3 := (XT.Kept.of_eq hh0).push bh3
  have hA3 := hA.keep X3.warmed.alike (kp3 _ _ hA.1.1)
  have hne : b ≠ s.heap.size := hA.1.ne
  have c4 : Steps p.tables e below (s₁.setTop (entryFrame m #[.ref b, .int (Int32.ofNat o), .int (Int32.ofNat len)] 6)) (T3.setTop (mkF m 3 #[.val (.ref b), .val (.int (Int32.ofNat o)), .val (.int (Int32.ofNat len)), .unset, .unset, .unset] [.ref s.heap.size])) := c2.trans (st3 _ (Steps.refl _))
  have c5 : Steps p.tables e below (s₁.setTop (entryFrame m #[.ref b, .int (Int32.ofNat o), .int (Int32.ofNat len)] 6)) (T3.setTop (mkF m 9 #[.val (.ref b), .val (.int (Int32.ofNat o)), .val (.int (Int32.ofNat len)), .val (.ref s.heap.size), .unset, .unset] [.int (Int32.ofNat len), .int 0, .ref s.heap.size, .int (Int32.ofNat o), .ref b])) := c4.trans (by
    refine XS.astoreN X3.here hexec rfl (hb hbytes d3) rfl rfl rfl ?_
    refine XS.aloadN X3.here hexec rfl (hb hbytes d4) rfl rfl ?_
    refine XS.iloadN X3.here hexec rfl (hb hbytes d5) rfl ?_
    refine XS.aloadN X3.here hexec rfl (hb hbytes d6) rfl rfl ?_
    refine iconstV X3.here hexec rfl 0 (hb hbytes d7) (by decide) ?_
    refine XS.iloadN X3.here hexec rfl (hb hbytes d8) rfl ?_
    exact Steps.refl _)
  obtain ⟨v6, T6, X6, E6, g6⟩ := X3.callS hexec (Cmp5.law l b A s.heap.size B3 o 0 len) hown (wks W (staticW U16 115 Cmp5.yN)) (wk W Cmp5.tab) (W := 0) (Nat.le_of_ble_eq_true rfl) (Nat.le_of_ble_eq_true rfl) (Nat.le_refl _) (by show 0 + len + 0 ≤ len; omega) (g := (mkF m 9 #[.val (.ref b), .val (.int (Int32.ofNat o)), .val (.int (Int32.ofNat len)), .val (.ref s.heap.size), .unset, .unset] [.int (Int32.ofNat len), .int (Int32.ofNat 0), .ref s.heap.size, .int (Int32.ofNat o), .ref b])) rfl (by rw [hml]; rfl) c5 (argsL := [.ref b, .int (Int32.ofNat o), .ref s.heap.size, .int (Int32.ofNat 0), .int (Int32.ofNat len)]) (rest := []) rfl rfl (by show 2 * 0 + 0 ≤ _; decide) (hb hbytes d9) (⟨rfl, hA3, ba3, hne, l1, by rw [bs3]; simp, hp⟩)
  obtain ⟨rfl, B6, p6, f6⟩ := E6
  have c7 : Steps p.tables e below (s₁.setTop (entryFrame m #[.ref b, .int (Int32.ofNat o), .int (Int32.ofNat len)] 6)) (T6.setTop (mkF m 12 #[.val (.ref b), .val (.int (Int32.ofNat o)), .val (.int (Int32.ofNat len)), .val (.ref s.heap.size), .unset, .unset] [.int (Int32.ofNat len)])) := g6
  have c8 : Steps p.tables e below (s₁.setTop (entryFrame m #[.ref b, .int (Int32.ofNat o), .int (Int32.ofNat len)] 6)) (T6.setTop (mkF m 58 #[.val (.ref b), .val (.int (Int32.ofNat o)), .val (.int (Int32.ofNat len)), .val (.ref s.heap.size), .val (.int (Int32.ofNat len)), .unset] [.ref s.heap.size])) := c7.trans (by
    refine XS.istore X6.here hexec rfl (hb hbytes d12) rfl rfl ?_
    refine XS.iload X6.here hexec rfl (hb hbytes d14) rfl ?_
    refine XS.iloadN X6.here hexec rfl (hb hbytes d16) rfl ?_
    refine XS.icmpYes X6.here hexec rfl (pc0 := 17) rfl (hb hbytes d17) rfl (ii_eq_t rfl) (by decide) rfl ?_
    refine XS.aloadN X6.here hexec rfl (hb hbytes d57) rfl rfl ?_
    exact Steps.refl _)
  have X8 := X6.wide (L' := []) (cells' := 1) (slots' := len) (fun x hx hlt => by
    simp only [List.nil_append, copyLocs, List.mem_map, List.mem_range] at hx
    obtain ⟨i, -, rfl⟩ := hx
    exact absurd hlt (Nat.lt_irrefl _)) (Nat.le_refl _) (by omega)
  exact ⟨T6, some (.ref s.heap.size), _, _, _, X8, rfl, rfl, rfl, (fun h => by cases h), ⟨⟨rfl, B6, ba3.like (X3.warmed.alike.symm.trans X6.warmed.alike) p6.1 f6.1 f6.2.1 f6.2.2.1, f6.2.1.trans bv3, by rw [X6.warmed.alike.findClass, f6.1]; exact bf3, by rw [f6.2.2.1, bs3]; simp, fun j hj => by rw [f6.2.2.2 j, if_pos (by omega)]; rfl, kp3.put p6 (Nat.le_refl _)⟩, by rw [p6.2.2, bh3, hh0]; simp⟩, fun fs hl => c8.trans (X8.areturnOut hexec rfl hret rfl (hb hbytes d58) hl)⟩
end Cmp3
namespace CodL
def yN : MethodName := ⟨"java/lang/StringUTF16", "coderFromArrayLen", "([BI)B"⟩
abbrev yB : ByteArray := jdk_52_method_15_code
theorem d0 : decode yB 0 = .ok (.iload_n 1, 1) := by decide +kernel
theorem d1 : decode yB 1 = .ok (.aload_n 0, 1) := by decide +kernel
theorem d2 : decode yB 2 = .ok (.arraylength, 1) := by decide +kernel
theorem d3 : decode yB 3 = .ok (.isub, 1) := by decide +kernel
theorem d4 : decode yB 4 = .ok (.bipush 31, 2) := by decide +kernel
theorem d6 : decode yB 6 = .ok (.iushr, 1) := by decide +kernel
theorem d7 : decode yB 7 = .ok (.i2b, 1) := by decide +kernel
theorem d8 : decode yB 8 = .ok (.ireturn, 1) := by decide +kernel
def site : List Cond := []
def tab : Cond := tabOf yN yB 2 (some .byte) site
def P (d : Addr) (B : Cell) (args : Array Value) (s : State) : Prop := args = #[.ref d, .int (Int32.ofNat B.slots.size)] ∧ Arr .byte d B s
def E (r : Option Value) (s u : State) : Prop := XT.PureE (some (.int 0)) r s u
/-- an array as long as the number of chars: LATIN1 -/
theorem law (l : Launch) (d : Addr) (B : Cell) : Law l yN 2 2 0 0 yB 2 (some .byte) site (P d B) E [] 0 0 := by
  refine Law.of_walk (plainFor_of_name (by decide +kernel)) (by decide +kernel) (by decide +kernel) (by decide) (fun _ _ h => by rw [h.1]; rfl) (fun _ U U' hal hh h => ⟨h.1, h.2.mv hal hh⟩) (fun r U U' V V' h1 hal h2 h => XT.PureE.mv r U U' V V' h1 hal h2 h) ?_
  intro p e s m args below meth c s₁ X0 hexec hbytes hml hret hlk hnm hown hh0 W hP
  obtain ⟨rfl, hB⟩ := hP
  have hB0 := hB.mv X0.warmed.alike hh0
  have c1 : Steps p.tables e below (s₁.setTop (entryFrame m #[.ref d, .int (Int32.ofNat B.slots.size)] 2)) (s₁.setTop (mkF m 0 #[.val (.ref d), .val (.int (Int32.ofNat B.slots.size))] [])) := entry rfl
  have c2 : Steps p.tables e below (s₁.setTop (entryFrame m #[.ref d, .int (Int32.ofNat B.slots.size)] 2)) (s₁.setTop (mkF m 2 #[.val (.ref d), .val (.int (Int32.ofNat B.slots.size))] [.ref d, .int (Int32.ofNat B.slots.size)])) := c1.trans (by
    refine XS.iloadN X0.here hexec rfl (hb hbytes d0) rfl ?_
    refine XS.aloadN X0.here hexec rfl (hb hbytes d1) rfl rfl ?_
    exact Steps.refl _)
  have c3 : Steps p.tables e below (s₁.setTop (entryFrame m #[.ref d, .int (Int32.ofNat B.slots.size)] 2)) (s₁.setTop (mkF m 8 #[.val (.ref d), .val (.int (Int32.ofNat B.slots.size))] [.int (lo8 (ushr (Int32.ofNat B.slots.size - Int32.ofNat B.slots.size) 31))])) := c2.trans (by
    refine X0.alen hexec hB0 rfl rfl (hb hbytes d2) ?_
    refine XS.isub X0.here hexec rfl (hb hbytes d3) rfl ?_
    refine bipushV X0.here hexec rfl 31 (hb hbytes d4) (by decide) ?_
    refine iushr X0.here hexec rfl (hb hbytes d6) rfl ?_
    refine i2b X0.here hexec rfl (hb hbytes d7) rfl ?_
    exact Steps.refl _)
  have e0 : lo8 (ushr (Int32.ofNat B.slots.size - Int32.ofNat B.slots.size) 31) = 0 := by rw [Int32.sub_self]; decide
  rw [e0] at c3
  exact ⟨s₁, some (.int 0), _, _, _, X0, rfl, rfl, rfl, (fun h => by cases h), ⟨rfl, hh0⟩, fun fs hl => c3.trans (X0.ireturnOut hexec hret rfl (Or.inr (Or.inr (Or.inl rfl))) (hb hbytes d8) hl)⟩
end CodL
/-- the String at a is Latin-1 over a new byte[] (the heap's one new cell): the low bytes of the len chars of A from o on; every cell but a is kept -/
def Got (a : Addr) (D : Cell) (fV fC : Field) (A : Cell) (o len : Nat) (r : Option Value) (s u : State) : Prop := r = none ∧ ∃ D' V : Cell, Blank "java/lang/String" a D' u ∧ Same D D' [fV.slot, fC.slot] ∧ D'.slots[fV.slot]? = some (.ref s.heap.size) ∧ D'.slots[fC.slot]? = some (.int 0) ∧ Arr .byte s.heap.size V u ∧ V.vm = .none ∧ u.vm.findClass "[B" = some V.cls ∧ V.slots.size = len ∧ (∀ j, j < len → V.slots[j]? = some (.int (lo8 (cv A (o + j))))) ∧ (∀ (y : Addr) (c : Cell), y ≠ a → s.heap[y]? = some c → u.heap[y]? = some c) ∧ u.heap.size = s.heap.size + 1
theorem Got.mv {a : Addr} {D A : Cell} {fV fC : Field} {o len : Nat} : ∀ r (U U' V V' : State), U'.heap = U.heap → V.vm.Alike V'.vm → V'.heap = V.heap → Got a D fV fC A o len r U V → Got a D fV fC A o len r U' V' :=
  fun r U U' V V' h1 hal h2 ⟨e0, D', X, a1, a2, a3, a4, a5, a6, a7, a8, a9, a10, a11⟩ => ⟨e0, D', X, a1.mv hal h2, a2, by rw [h1]; exact a3, a4, by rw [h1]; exact a5.mv hal h2, a6, by rw [hal.findClass]; exact a7, a8, a9, by rw [h1, h2]; exact a10, by rw [h1, h2]; exact a11⟩
namespace New4
def yN : MethodName := ⟨"java/lang/String", "<init>", "([CIILjava/lang/Void;)V"⟩
abbrev yB : ByteArray := jdk_42_method_149_code
theorem d0 : decode yB 0 = .ok (.aload_n 0, 1) := by decide +kernel
theorem d1 : decode yB 1 = .ok (.invokespecial 1, 3) := by decide +kernel
theorem d4 : decode yB 4 = .ok (.iload_n 3, 1) := by decide +kernel
theorem d5 : decode yB 5 = .ok (.ifCond (.ne) 22, 3) := by decide +kernel
theorem d27 : decode yB 27 = .ok (.getstatic 38, 3) := by decide +kernel
theorem d30 : decode yB 30 = .ok (.ifCond (.eq) 28, 3) := by decide +kernel
theorem d33 : decode yB 33 = .ok (.aload_n 1, 1) := by decide +kernel
theorem d34 : decode yB 34 = .ok (.iload_n 2, 1) := by decide +kernel
theorem d35 : decode yB 35 = .ok (.iload_n 3, 1) := by decide +kernel
theorem d36 : decode yB 36 = .ok (.invokestatic 177, 3) := by decide +kernel
theorem d39 : decode yB 39 = .ok (.astore 5, 2) := by decide +kernel
theorem d41 : decode yB 41 = .ok (.aload_n 0, 1) := by decide +kernel
theorem d42 : decode yB 42 = .ok (.aload 5, 2) := by decide +kernel
theorem d44 : decode yB 44 = .ok (.iload_n 3, 1) := by decide +kernel
theorem d45 : decode yB 45 = .ok (.invokestatic 47, 3) := by decide +kernel
theorem d48 : decode yB 48 = .ok (.putfield 15, 3) := by decide +kernel
theorem d51 : decode yB 51 = .ok (.aload_n 0, 1) := by decide +kernel
theorem d52 : decode yB 52 = .ok (.aload 5, 2) := by decide +kernel
theorem d54 : decode yB 54 = .ok (.putfield 9, 3) := by decide +kernel
theorem d57 : decode yB 57 = .ok (.return_, 1) := by decide +kernel
def site : List Cond := [.fieldLink "java/lang/String" 38 "java/lang/String" "COMPACT_STRINGS" "Z", Cmp3.tab, CodL.tab, .laysFinal "java/lang/String" "java/lang/String" "value" "[B", .fieldLink "java/lang/String" 9 "java/lang/String" "value" "[B", .laysFinal "java/lang/String" "java/lang/String" "coder" "B", .fieldLink "java/lang/String" 15 "java/lang/String" "coder" "B"] ++ objW "java/lang/String" 1 ++ staticW "java/lang/String" 177 Cmp3.yN ++ staticW "java/lang/String" 47 CodL.yN
def tab : Cond := tabOf yN yB 6 none site
def P (a : Addr) (D : Cell) (fV fC : Field) (b : Addr) (A : Cell) (z : Int32) (o len : Nat) (args : Array Value) (s : State) : Prop := args = #[.ref a, .ref b, .int (Int32.ofNat o), .int (Int32.ofNat len), .null] ∧ Blank "java/lang/String" a D s ∧ Found "java/lang/String" "value" "[B" fV s ∧ Found "java/lang/String" "coder" "B" fC s ∧ Ch b A s ∧ StaticIs s "java/lang/String" "COMPACT_STRINGS" "Z" (.int z) ∧ ¬ z = 0 ∧ 0 < len ∧ o + len ≤ A.slots.size ∧ len ≤ 536870912 ∧ ∀ i, i < len → ¬ 255 < cv A (o + i)
def E (a : Addr) (D : Cell) (fV fC : Field) (A : Cell) (o len : Nat) (r : Option Value) (s u : State) : Prop := Got a D fV fC A o len r s u
/-- len > 0, no char of the range above 255: a Latin-1 String of their low bytes -/
theorem law (l : Launch) (a : Addr) (D : Cell) (fV fC : Field) (b : Addr) (A : Cell) (z : Int32) (o len : Nat) : Law l yN 5 4 2 35 yB 6 none site (P a D fV fC b A z o len) (E a D fV fC A o len) [⟨a, fC.slot⟩, ⟨a, fV.slot⟩] 1 len := by
  refine Law.of_walk (plainFor_of_name (by decide +kernel)) (by decide +kernel) (by decide +kernel) (by decide) (fun _ _ h => by rw [h.1]; rfl) (fun _ U U' hal hh h => ⟨h.1, h.2.1.mv hal hh, h.2.2.1.al hal, h.2.2.2.1.al hal, h.2.2.2.2.1.mv hal hh, h.2.2.2.2.2.1.there hal hh, h.2.2.2.2.2.2⟩) (fun r U U' V V' h1 hal h2 h => Got.mv r U U' V V' h1 hal h2 h) ?_
  intro p e s m args below meth c s₁ X0 hexec hbytes hml hret hlk hnm hown hh0 W hP
  obtain ⟨rfl, hB, f1, f2, hA, s1, hz, l0, l1, l2, hp⟩ := hP
  have a31 := hA.1.2.2.2
  have c1 : Steps p.tables e below (s₁.setTop (entryFrame m #[.ref a, .ref b, .int (Int32.ofNat o), .int (Int32.ofNat len), .null] 6)) (s₁.setTop (mkF m 0 #[.val (.ref a), .val (.ref b), .val (.int (Int32.ofNat o)), .val (.int (Int32.ofNat len)), .val .null, .unset] [])) := entry rfl
  have c2 : Steps p.tables e below (s₁.setTop (entryFrame m #[.ref a, .ref b, .int (Int32.ofNat o), .int (Int32.ofNat len), .null] 6)) (s₁.setTop (mkF m 1 #[.val (.ref a), .val (.ref b), .val (.int (Int32.ofNat o)), .val (.int (Int32.ofNat len)), .val .null, .unset] [.ref a])) := c1.trans (by
    refine XS.aloadN X0.here hexec rfl (hb hbytes d0) rfl rfl ?_
    exact Steps.refl _)
  obtain ⟨T3, X3, q3, st3⟩ := X0.oinit hexec hown (wks W (objW "java/lang/String" 1)) (g := (mkF m 1 #[.val (.ref a), .val (.ref b), .val (.int (Int32.ofNat o)), .val (.int (Int32.ofNat len)), .val .null, .unset] [.ref a])) rfl (by rw [hml]; rfl) (rest := []) rfl (hb hbytes d1) (W := 0) (by show 2 * 0 + 0 ≤ _; decide) (Nat.le_of_ble_eq_true rfl) (Nat.le_of_ble_eq_true rfl)
  have hh3 := q3.trans hh0
  have c4 : Steps p.tables e below (s₁.setTop (entryFrame m #[.ref a, .ref b, .int (Int32.ofNat o), .int (Int32.ofNat len), .null] 6)) (T3.setTop (mkF m 27 #[.val (.ref a), .val (.ref b), .val (.int (Int32.ofNat o)), .val (.int (Int32.ofNat len)), .val .null, .unset] [])) := (c2.trans (st3 _ (Steps.refl _))).trans (by
    refine XS.iloadN X3.here hexec rfl (hb hbytes d4) rfl ?_
    refine XS.ifYes X3.here hexec rfl (pc0 := 5) rfl (hb hbytes d5) rfl (i0_ne_t (nz32 (by omega) l0)) (by decide) rfl ?_
    exact Steps.refl _)
  obtain ⟨T5, X5, q5, st5⟩ := X3.sget hexec hown (wk W (.fieldLink "java/lang/String" 38 "java/lang/String" "COMPACT_STRINGS" "Z")) s1 (fun _ _ h => by rw [hh3]; exact h) (g := (mkF m 27 #[.val (.ref a), .val (.ref b), .val (.int (Int32.ofNat o)), .val (.int (Int32.ofNat len)), .val .null, .unset] [])) rfl (hb hbytes d27)
  have hh5 := q5.trans hh3
  have c6 : Steps p.tables e below (s₁.setTop (entryFrame m #[.ref a, .ref b, .int (Int32.ofNat o), .int (Int32.ofNat len), .null] 6)) (T5.setTop (mkF m 30 #[.val (.ref a), .val (.ref b), .val (.int (Int32.ofNat o)), .val (.int (Int32.ofNat len)), .val .null, .unset] [.int z])) := c4.trans (st5 _ (Steps.refl _))
  have c7 : Steps p.tables e below (s₁.setTop (entryFrame m #[.ref a, .ref b, .int (Int32.ofNat o), .int (Int32.ofNat len), .null] 6)) (T5.setTop (mkF m 36 #[.val (.ref a), .val (.ref b), .val (.int (Int32.ofNat o)), .val (.int (Int32.ofNat len)), .val .null, .unset] [.int (Int32.ofNat len), .int (Int32.ofNat o), .ref b])) := c6.trans (by
    refine XS.ifNo X5.here hexec rfl (hb hbytes d30) rfl (i0_eq_f hz) ?_
    refine XS.aloadN X5.here hexec rfl (hb hbytes d33) rfl rfl ?_
    refine XS.iloadN X5.here hexec rfl (hb hbytes d34) rfl ?_
    refine XS.iloadN X5.here hexec rfl (hb hbytes d35) rfl ?_
    exact Steps.refl _)
  obtain ⟨v8, T8, X8, E8, g8⟩ := X5.callS hexec (Cmp3.law l b A o len) hown (wks W (staticW "java/lang/String" 177 Cmp3.yN)) (wk W Cmp3.tab) (W := 0) (Nat.le_of_ble_eq_true rfl) (Nat.le_of_ble_eq_true rfl) (Nat.le_refl _) (by show 0 + len ≤ len; omega) (g := (mkF m 36 #[.val (.ref a), .val (.ref b), .val (.int (Int32.ofNat o)), .val (.int (Int32.ofNat len)), .val .null, .unset] [.int (Int32.ofNat len), .int (Int32.ofNat o), .ref b])) rfl (by rw [hml]; rfl) c7 (argsL := [.ref b, .int (Int32.ofNat o), .int (Int32.ofNat len)]) (rest := []) rfl rfl (by show 2 * 0 + 0 ≤ _; decide) (hb hbytes d36) (⟨rfl, hA.mv X5.warmed.alike hh5, l1, l2, hp⟩)
  obtain ⟨e8, z8⟩ := E8
  obtain ⟨rfl, N, n1, n2, n3, n4, n5, n6⟩ := NewArr.mv _ T5 s _ _ hh5.symm (Vm.Alike.refl _) rfl e8
  rw [hh5] at z8
  have hB1 := hB.keep X8.warmed.alike (n6 _ _ hB.1)
  have hne : s.heap.size ≠ a := (Nat.ne_of_lt (Array.getElem?_eq_some_iff.mp hB.1).1).symm
  have c9 : Steps p.tables e below (s₁.setTop (entryFrame m #[.ref a, .ref b, .int (Int32.ofNat o), .int (Int32.ofNat len), .null] 6)) (T8.setTop (mkF m 39 #[.val (.ref a), .val (.ref b), .val (.int (Int32.ofNat o)), .val (.int (Int32.ofNat len)), .val .null, .unset] [.ref s.heap.size])) := g8
  have c10 : Steps p.tables e below (s₁.setTop (entryFrame m #[.ref a, .ref b, .int (Int32.ofNat o), .int (Int32.ofNat len), .null] 6)) (T8.setTop (mkF m 45 #[.val (.ref a), .val (.ref b), .val (.int (Int32.ofNat o)), .val (.int (Int32.ofNat len)), .val .null, .val (.ref s.heap.size)] [.int (Int32.ofNat N.slots.size), .ref s.heap.size, .ref a])) := by
    have hc : Steps p.tables e below (s₁.setTop (entryFrame m #[.ref a, .ref b, .int (Int32.ofNat o), .int (Int32.ofNat len), .null] 6)) (T8.setTop (mkF m 45 #[.val (.ref a), .val (.ref b), .val (.int (Int32.ofNat o)), .val (.int (Int32.ofNat len)), .val .null, .val (.ref s.heap.size)] [.int (Int32.ofNat len), .ref s.heap.size, .ref a])) := c9.trans (by
      refine XS.astore X8.here hexec rfl (hb hbytes d39) rfl rfl rfl ?_
      refine XS.aloadN X8.here hexec rfl (hb hbytes d41) rfl rfl ?_
      refine XS.aload X8.here hexec rfl (hb hbytes d42) rfl rfl ?_
      refine XS.iloadN X8.here hexec rfl (hb hbytes d44) rfl ?_
      exact Steps.refl _)
    rw [n4]; exact hc
  obtain ⟨v11, T11, X11, E11, g11⟩ := X8.callS hexec (CodL.law l s.heap.size N) hown (wks W (staticW "java/lang/String" 47 CodL.yN)) (wk W CodL.tab) (W := 1) (Nat.le_of_ble_eq_true rfl) (Nat.le_of_ble_eq_true rfl) (Nat.le_refl _) (by show 0 + len + 0 ≤ len; omega) (g := (mkF m 45 #[.val (.ref a), .val (.ref b), .val (.int (Int32.ofNat o)), .val (.int (Int32.ofNat len)), .val .null, .val (.ref s.heap.size)] [.int (Int32.ofNat N.slots.size), .ref s.heap.size, .ref a])) rfl (by rw [hml]; rfl) c10 (argsL := [.ref s.heap.size, .int (Int32.ofNat N.slots.size)]) (rest := [.ref a]) rfl rfl (by show 2 * 0 + (1 + 0) ≤ _; decide) (hb hbytes d45) (⟨rfl, n1⟩)
  obtain ⟨rfl, q11⟩ := E11
  have hB11 := hB1.mv (X8.warmed.alike.symm.trans X11.warmed.alike) q11
  have c12 : Steps p.tables e below (s₁.setTop (entryFrame m #[.ref a, .ref b, .int (Int32.ofNat o), .int (Int32.ofNat len), .null] 6)) (T11.setTop (mkF m 48 #[.val (.ref a), .val (.ref b), .val (.int (Int32.ofNat o)), .val (.int (Int32.ofNat len)), .val .null, .val (.ref s.heap.size)] [.int 0, .ref a])) := g11
  obtain ⟨T13, X13, p13, bl13, sl13, st13⟩ := X11.finit hexec hown (wk W (.fieldLink "java/lang/String" 15 "java/lang/String" "coder" "B")) (Or.inr ⟨_, (wk W (.laysFinal "java/lang/String" "java/lang/String" "coder" "B"))⟩) (Or.inl ⟨rfl, hnm⟩) f2 (Or.inl rfl) hB11 (t := .byte) (by decide +kernel) rfl (g := (mkF m 48 #[.val (.ref a), .val (.ref b), .val (.int (Int32.ofNat o)), .val (.int (Int32.ofNat len)), .val .null, .val (.ref s.heap.size)] [.int 0, .ref a])) rfl (rest := []) rfl (hb hbytes d48)
  have c14 : Steps p.tables e below (s₁.setTop (entryFrame m #[.ref a, .ref b, .int (Int32.ofNat o), .int (Int32.ofNat len), .null] 6)) (T13.setTop (mkF m 54 #[.val (.ref a), .val (.ref b), .val (.int (Int32.ofNat o)), .val (.int (Int32.ofNat len)), .val .null, .val (.ref s.heap.size)] [.ref s.heap.size, .ref a])) := (c12.trans (st13 _ (Steps.refl _))).trans (by
    refine XS.aloadN X13.here hexec rfl (hb hbytes d51) rfl rfl ?_
    refine XS.aload X13.here hexec rfl (hb hbytes d52) rfl rfl ?_
    exact Steps.refl _)
  obtain ⟨T15, X15, p15, bl15, sl15, st15⟩ := X13.finit hexec hown (wk W (.fieldLink "java/lang/String" 9 "java/lang/String" "value" "[B")) (Or.inr ⟨_, (wk W (.laysFinal "java/lang/String" "java/lang/String" "value" "[B"))⟩) (Or.inl ⟨rfl, hnm⟩) f1 (Or.inl rfl) bl13 (t := (.array .byte)) (by decide +kernel) rfl (g := (mkF m 54 #[.val (.ref a), .val (.ref b), .val (.int (Int32.ofNat o)), .val (.int (Int32.ofNat len)), .val .null, .val (.ref s.heap.size)] [.ref s.heap.size, .ref a])) rfl (rest := []) rfl (hb hbytes d54)
  have c16 : Steps p.tables e below (s₁.setTop (entryFrame m #[.ref a, .ref b, .int (Int32.ofNat o), .int (Int32.ofNat len), .null] 6)) (T15.setTop (mkF m 57 #[.val (.ref a), .val (.ref b), .val (.int (Int32.ofNat o)), .val (.int (Int32.ofNat len)), .val .null, .val (.ref s.heap.size)] [])) := c14.trans (st15 _ (Steps.refl _))
  have ap := apart (Or.inr ⟨_, (wk W (.laysFinal "java/lang/String" "java/lang/String" "value" "[B"))⟩) (Or.inr ⟨_, (wk W (.laysFinal "java/lang/String" "java/lang/String" "coder" "B"))⟩) f1 f2 (t₁ := .array .byte) (t₂ := .byte) (by decide +kernel) (by decide +kernel) (by decide)
  have al := X8.warmed.alike.symm.trans X15.warmed.alike
  have n7 : T11.heap[s.heap.size]? = some N := by rw [q11]; exact n1.1
  exact ⟨T15, none, _, _, _, X15, by simp, rfl, by omega, (fun _ => rfl), ⟨rfl, _, N, bl15, ((Same.refl D _).set _ (by simp)).set _ (by simp), sl15, (Cell.slots_setSlot_ne _ ap).trans sl13, n1.keep al (p15.other hne (p13.other hne n7)), n2, by rw [al.findClass]; exact n3, n4, n5, fun y c h1 h2 => p15.other h1 (p13.other h1 (by rw [q11]; exact n6 y c h2)), by rw [p15.2.2, p13.2.2, q11]; exact z8⟩, fun fs hl => c16.trans (X15.returnOut hexec hret (hb hbytes d57) hl)⟩
end New4
namespace New1
def yN : MethodName := ⟨"java/lang/String", "<init>", "([C)V"⟩
abbrev yB : ByteArray := jdk_42_method_3_code
theorem d0 : decode yB 0 = .ok (.aload_n 0, 1) := by decide +kernel
theorem d1 : decode yB 1 = .ok (.aload_n 1, 1) := by decide +kernel
theorem d2 : decode yB 2 = .ok (.iconst 0, 1) := by decide +kernel
theorem d3 : decode yB 3 = .ok (.aload_n 1, 1) := by decide +kernel
theorem d4 : decode yB 4 = .ok (.arraylength, 1) := by decide +kernel
theorem d5 : decode yB 5 = .ok (.aconst_null, 1) := by decide +kernel
theorem d6 : decode yB 6 = .ok (.invokespecial 27, 3) := by decide +kernel
theorem d9 : decode yB 9 = .ok (.return_, 1) := by decide +kernel
def site : List Cond := [New4.tab] ++ initW "java/lang/String" 27 New4.yN
def tab : Cond := tabOf yN yB 2 none site
def P (a : Addr) (D : Cell) (fV fC : Field) (b : Addr) (A : Cell) (z : Int32) (args : Array Value) (s : State) : Prop := args = #[.ref a, .ref b] ∧ Blank "java/lang/String" a D s ∧ Found "java/lang/String" "value" "[B" fV s ∧ Found "java/lang/String" "coder" "B" fC s ∧ Ch b A s ∧ StaticIs s "java/lang/String" "COMPACT_STRINGS" "Z" (.int z) ∧ ¬ z = 0 ∧ 0 < A.slots.size ∧ A.slots.size ≤ 536870912 ∧ ∀ i, i < A.slots.size → ¬ 255 < cv A i
def E (a : Addr) (D : Cell) (fV fC : Field) (A : Cell) (r : Option Value) (s u : State) : Prop := Got a D fV fC A 0 A.slots.size r s u
/-- new String(chars), not empty, no char above 255: a Latin-1 String of their low bytes -/
theorem law (l : Launch) (a : Addr) (D : Cell) (fV fC : Field) (b : Addr) (A : Cell) (z : Int32) : Law l yN 2 1 3 52 yB 2 none site (P a D fV fC b A z) (E a D fV fC A) [⟨a, fC.slot⟩, ⟨a, fV.slot⟩] 1 A.slots.size := by
  refine Law.of_walk (plainFor_of_name (by decide +kernel)) (by decide +kernel) (by decide +kernel) (by decide) (fun _ _ h => by rw [h.1]; rfl) (fun _ U U' hal hh h => ⟨h.1, h.2.1.mv hal hh, h.2.2.1.al hal, h.2.2.2.1.al hal, h.2.2.2.2.1.mv hal hh, h.2.2.2.2.2.1.there hal hh, h.2.2.2.2.2.2⟩) (fun r U U' V V' h1 hal h2 h => Got.mv r U U' V V' h1 hal h2 h) ?_
  intro p e s m args below meth c s₁ X0 hexec hbytes hml hret hlk hnm hown hh0 W hP
  obtain ⟨rfl, hB, f1, f2, hA, s1, hz, l0, l2, hp⟩ := hP
  have c1 : Steps p.tables e below (s₁.setTop (entryFrame m #[.ref a, .ref b] 2)) (s₁.setTop (mkF m 0 #[.val (.ref a), .val (.ref b)] [])) := entry rfl
  have c2 : Steps p.tables e below (s₁.setTop (entryFrame m #[.ref a, .ref b] 2)) (s₁.setTop (mkF m 6 #[.val (.ref a), .val (.ref b)] [.null, .int (Int32.ofNat A.slots.size), .int 0, .ref b, .ref a])) := c1.trans (by
    refine XS.aloadN X0.here hexec rfl (hb hbytes d0) rfl rfl ?_
    refine XS.aloadN X0.here hexec rfl (hb hbytes d1) rfl rfl ?_
    refine iconstV X0.here hexec rfl 0 (hb hbytes d2) (by decide) ?_
    refine XS.aloadN X0.here hexec rfl (hb hbytes d3) rfl rfl ?_
    refine X0.alen hexec (hA.1.mv X0.warmed.alike hh0) rfl rfl (hb hbytes d4) ?_
    refine XS.aconstNull X0.here hexec rfl (hb hbytes d5) ?_
    exact Steps.refl _)
  obtain ⟨v3, T3, X3, E3, g3⟩ := X0.callN hexec (New4.law l a D fV fC b A z 0 A.slots.size) rfl hown (wks W (initW "java/lang/String" 27 New4.yN)) (W New4.tab (by simp only [site, List.mem_cons, List.mem_append, true_or, or_true])) (W := 0) (Nat.le_of_ble_eq_true rfl) (Nat.le_of_ble_eq_true rfl) (Nat.le_refl _) (by show 0 + A.slots.size ≤ A.slots.size; omega) (g := (mkF m 6 #[.val (.ref a), .val (.ref b)] [.null, .int (Int32.ofNat A.slots.size), .int (Int32.ofNat 0), .ref b, .ref a])) rfl (by rw [hml]; rfl) c2 (argsL := [.ref b, .int (Int32.ofNat 0), .int (Int32.ofNat A.slots.size), .null]) (rest := []) rfl rfl (by show 2 * 0 + 0 ≤ _; decide) (hb hbytes d6) (⟨rfl, hB.mv X0.warmed.alike hh0, f1.al X0.warmed.alike, f2.al X0.warmed.alike, hA.mv X0.warmed.alike hh0, s1.there X0.warmed.alike hh0, hz, l0, by omega, l2, fun i hi => by rw [Nat.zero_add]; exact hp i hi⟩)
  have e0 := Got.mv _ s₁ s _ _ hh0.symm (Vm.Alike.refl _) rfl E3
  obtain rfl := e0.1
  have c4 : Steps p.tables e below (s₁.setTop (entryFrame m #[.ref a, .ref b] 2)) (T3.setTop (mkF m 9 #[.val (.ref a), .val (.ref b)] [])) := g3
  exact ⟨T3, none, _, _, _, X3, by simp, rfl, by omega, (fun _ => rfl), e0, fun fs hl => c4.trans (X3.returnOut hexec hret (hb hbytes d9) hl)⟩
theorem pays {l : Launch} {R : Room} {p : Program} {e : Env} {below : List Frame} {s : State} {sargs : Array Value} {len W : Nat} (a : Addr) (D : Cell) (fV fC : Field) (b : Addr) (A : Cell) (z : Int32) (htab : tab.before sargs s = true) (hfr : 4 ≤ R.frames) (hlo : W + 65 ≤ R.locals) :
    Back l R p e below s sargs yN len W (fun A₁ a₁ => A₁.cells + 1 ≤ R.cells ∧ A₁.slots + A.slots.size ≤ R.slots ∧ P a D fV fC b A z a₁ A₁.U) (fun A₁ _ v₁ B₁ => E a D fV fC A v₁ A₁.U B₁.U ∧ B₁.locs = A₁.locs ++ [⟨a, fC.slot⟩, ⟨a, fV.slot⟩] ∧ B₁.cells = A₁.cells + 1 ∧ B₁.slots = A₁.slots + A.slots.size) :=
  (law l a D fV fC b A z).pays htab hfr (by omega)
end New1
end StrChars
namespace StrChars.Road
open Jvm Sem ClassFile Op Lib Jvm.Stand Jvm.Free Jvm.Free.XT
open Jvm.Lib.Cold (StaticIs)
abbrev ST : String := "java/lang/String"
/-- every table word that New1's law asks, flat -/
abbrev words : List Jvm.Cond := [.code New1.yN New1.yB 2 none, .initialized ST, .methodLink ST 27 New4.yN, .instanceMethod New4.yN,
  .code New4.yN New4.yB 6 none, .fieldLink ST 38 ST "COMPACT_STRINGS" "Z", .laysFinal ST ST "value" "[B", .fieldLink ST 9 ST "value" "[B", .laysFinal ST ST "coder" "B", .fieldLink ST 15 ST "coder" "B",
  .methodLink ST 1 Lib.objectInit, .instanceMethod Lib.objectInit, .code Lib.objectInit ⟨#[0xb1]⟩ 1 none, .methodLink ST 177 Cmp3.yN, .static Cmp3.yN, .methodLink ST 47 CodL.yN, .static CodL.yN,
  .code Cmp3.yN Cmp3.yB 6 (some (.array .byte)), .initialized U16, .arrayClass .byte, .methodLink U16 115 Cmp5.yN, .static Cmp5.yN, .code Cmp5.yN Cmp5.yB 7 (some .int), .code CodL.yN CodL.yB 2 (some .byte)]
theorem tab_of {a : Array Value} {s : State} (h : ∀ w ∈ words, w.before a s = true) : New1.tab.before a s = true := by
  have h5 : Cmp5.tab.before a s = true := unparts (wk h (.code Cmp5.yN Cmp5.yB 7 (some .int))) (wks h (.initialized Cmp5.yN.cls :: Cmp5.site))
  have hc : CodL.tab.before a s = true := unparts (wk h (.code CodL.yN CodL.yB 2 (some .byte))) (wks h (.initialized CodL.yN.cls :: CodL.site))
  have q5 : ∀ w ∈ Cmp5.tab :: words, w.before a s = true := fun w hw => (List.mem_cons.mp hw).elim (fun e => e ▸ h5) (h w)
  have h3 : Cmp3.tab.before a s = true := unparts (wk q5 (.code Cmp3.yN Cmp3.yB 6 (some (.array .byte)))) (wks q5 (.initialized Cmp3.yN.cls :: Cmp3.site))
  have q3 : ∀ w ∈ Cmp3.tab :: CodL.tab :: words, w.before a s = true := fun w hw => (List.mem_cons.mp hw).elim (fun e => e ▸ h3) fun hw => (List.mem_cons.mp hw).elim (fun e => e ▸ hc) (h w)
  have h4 : New4.tab.before a s = true := unparts (wk q3 (.code New4.yN New4.yB 6 none)) (wks q3 (.initialized New4.yN.cls :: New4.site))
  have q4 : ∀ w ∈ New4.tab :: words, w.before a s = true := fun w hw => (List.mem_cons.mp hw).elim (fun e => e ▸ h4) (h w)
  exact unparts (wk q4 (.code New1.yN New1.yB 2 none)) (wks q4 (.initialized New1.yN.cls :: New1.site))
/-- the words ride from the start Z to the walk's own state -/
theorem moved {Z s : State} {a0 args : Array Value} (hZ : Z.Warmed39 s.vm) (hw : ∀ d ∈ words, d.before a0 Z = true) : ∀ d ∈ words, d.before args s = true := fun d hd => by
  have q := hw d hd
  have t : ∀ d ∈ words, d = .arrayClass .byte ∨ (d.onTables && d.keepsFace) = true := by decide +kernel
  rcases t d hd with rfl | t
  · exact RoadKit.mvA hZ q
  · exact RoadKit.mv hZ q t
/-- WHAT COMES BACK, over the tables of the start Z: h the heap at the call, h' behind it -/
def Q (Z : State) (x : Addr) (A : Cell) (h : Heap) (v : Option Value) (h' : Heap) (L : List Loc) : Prop := v = none ∧ (∀ y ∈ L, y.base = x) ∧ RoadKit.Keep h h' [x] ∧ h'.size = h.size + 1 ∧ RoadKit.Exa Z h' x ST ∧ RoadKit.Fld Z h' x ST "value" "[B" (.ref h.size) ∧ RoadKit.Fld Z h' x ST "coder" "B" (.int 0) ∧
  (∃ V : Cell, RoadKit.Arr Z h' h.size V .byte ∧ V.vm = .none ∧ Z.vm.findClass "[B" = some V.cls ∧ V.slots.size = A.slots.size ∧ ∀ j, j < A.slots.size → V.slots[j]? = some (.int (lo8 (cv A j)))) ∧
  ∀ (O n d : String) (w : Value), RoadKit.Fld Z h x O n d w → RoadKit.slotOf Z O n d ≠ RoadKit.slotOf Z ST "value" "[B" → RoadKit.slotOf Z O n d ≠ RoadKit.slotOf Z ST "coder" "B" → RoadKit.Fld Z h' x O n d w
/-- **new String(chars) AT A CALL, IN THE ROAD'S FORM**: for specialBack behind newO: x the fresh String, b the char[] with the cell A -/
theorem back {p : Program} {l : Launch} {e : Env} {R : Room} {s : State} {args : Array Value} {below : List Frame} {len W : Nat} {Z : State} {a0 : Array Value} {h : Heap} (hZ : Z.Warmed39 s.vm) (hw : ∀ d ∈ words, d.before a0 Z = true) {kI : Nat} (wi : (Jvm.Cond.instantiable ST kI).before a0 Z = true)
    {x b : Addr} {A : Cell} {z : Int32} {v0 c0 : Value} (E : RoadKit.Exa Z h x ST) (V : RoadKit.Fld Z h x ST "value" "[B" v0) (C : RoadKit.Fld Z h x ST "coder" "B" c0) (K : RoadKit.Arr Z h b A .char) (hty : Typed .char A) (S : RoadKit.Sta Z h ST "COMPACT_STRINGS" "Z" (.int z)) (hz : ¬ z = 0)
    (l0 : 0 < A.slots.size) (l2 : A.slots.size ≤ 536870912) (hp : ∀ i, i < A.slots.size → ¬ 255 < cv A i) (hfr : 4 ≤ R.frames) (hlo : W + 65 ≤ R.locals) :
    Back l R p e below s args New1.yN len W (fun P a => a = #[.ref x, .ref b] ∧ P.U.heap = h ∧ P.cells + 1 ≤ R.cells ∧ P.slots + A.slots.size ≤ R.slots)
      (fun P _ v B => ∃ L, Q Z x A h v B.U.heap L ∧ B.locs = P.locs ++ L ∧ B.cells = P.cells + 1 ∧ B.slots = P.slots + A.slots.size) := by
  intro m meth c P g ig mk a X hg hsize hdg hW hn hp'
  obtain ⟨rfl, rfl, r1, r2⟩ := hp'
  have al : Z.vm.Alike P.U.vm := hZ.alike.trans X.warmed.alike
  obtain ⟨D, cfV, kV, iV, fV, hD, gV, stV, knV, obV, asV, slV⟩ := id V
  obtain ⟨D', cfC, kC, iC, fC, hD', gC, stC, -, -, asC, slC⟩ := id C
  cases hD.symm.trans hD'
  obtain ⟨D2, kD, e1, e2, e3, e4, e5⟩ := id E
  cases hD.symm.trans e1
  obtain ⟨c2, k2, i1, i2, i3, -⟩ := Cond.instantiable_spec wi
  cases e2.symm.trans i1
  cases e3.symm.trans i2
  obtain ⟨kU, u1, u2⟩ := al.2.2 _ _ e3
  have hB : Blank ST x D P.U := ⟨hD, ⟨knV, fun q hq => by rw [hq] at obV; cases obV⟩, by rw [al.findClass]; exact e2, kU, u1, by rw [u2]; exact i3, by rw [u2]; exact e5 i3⟩
  have F1 : Found ST "value" "[B" fV P.U := ⟨SBG.found_only al ⟨cfV, kV, iV, gV⟩, stV⟩
  have F2 : Found ST "coder" "B" fC P.U := ⟨SBG.found_only al ⟨cfC, kC, iC, gC⟩, stC⟩
  have hA : Ch b A P.U := ⟨⟨K.1, State.isArrayOf_alike al K.2.1, K.2.2, by omega⟩, hty⟩
  have hS : StaticIs P.U ST "COMPACT_STRINGS" "Z" (.int z) := by
    obtain ⟨cfS, iS, kS, fS, st, cS, t1, t2, t3, t4, t5, t6, t7⟩ := S
    exact StaticIs.there (s := { Z with heap := P.U.heap }) ⟨cfS, iS, kS, fS, st, cS, t1, t2, t3, t4, t5, (fun q => by rw [q] at t6; cases t6), t7⟩ al rfl
  obtain ⟨v, B, X', ⟨⟨hv, E', V', q1, q2, q3, q4, q5, q6, q7, q8, q9, q10, q11⟩, hl, hc, hs⟩, st⟩ := New1.pays x D fV fC b A z (tab_of (moved hZ hw)) hfr hlo m meth c P g ig mk _ X hg hsize hdg hW hn ⟨r1, r2, rfl, hB, F1, F2, hA, hS, hz, l0, l2, hp⟩
  have al' : Z.vm.Alike B.U.vm := hZ.alike.trans X'.warmed.alike
  have hsz : E'.slots.size = D.slots.size := by
    obtain ⟨-, -, -, kB, w1, w2, w3⟩ := q1
    obtain ⟨kB', y1, y2⟩ := al'.2.2 _ _ e3
    rw [q2.2.1] at w1
    cases w1.symm.trans y1
    rw [w3, e5 i3, y2]
  refine ⟨v, B, X', ⟨_, ⟨hv, ?_, ⟨by omega, fun y cy hy hn' => q10 y cy (by simpa using hn') hy, fun y cy hy => ?_⟩, q11, ⟨E', _, q1.1, by rw [q2.2.1]; exact e2, by rw [q2.2.1]; exact e3, by rw [q2.1]; exact obV, fun _ => by rw [hsz]; exact e5 i3⟩,
    ⟨E', cfV, kV, iV, fV, q1.1, gV, stV, by rw [q2.1]; exact knV, by rw [q2.1]; exact obV, by rw [q2.2.1]; exact asV, q3⟩, ⟨E', cfC, kC, iC, fC, q1.1, gC, stC, by rw [q2.1]; exact knV, by rw [q2.1]; exact obV, by rw [q2.2.1]; exact asC, q4⟩,
    ⟨V', ⟨q5.1, State.isArrayOf_alike al'.symm q5.2.1, q5.2.2.1⟩, q6, by rw [← al'.findClass]; exact q7, q8, fun j hj => by have := q9 j hj; rwa [Nat.zero_add] at this⟩, fun O n d w F n1 n2 => ?_⟩, hl, hc, hs⟩, st⟩
  · intro y hy
    simp only [List.mem_cons, List.not_mem_nil, or_false] at hy
    rcases hy with rfl | rfl <;> rfl
  · by_cases q : y = x
    · subst q
      cases hD.symm.trans hy
      exact ⟨E', q1.1, q2.2.1, q2.1, hsz⟩
    · exact ⟨cy, q10 y cy q hy, rfl, rfl, rfl⟩
  · obtain ⟨D3, cf, k, i, f, g1, g2, g3, g4, g5, g6, g7⟩ := F
    cases hD.symm.trans g1
    simp only [RoadKit.slotOf, g2, gV, gC, Option.map_some, Option.getD_some] at n1 n2
    exact ⟨E', cf, k, i, f, q1.1, g2, g3, by rw [q2.1]; exact g4, by rw [q2.1]; exact g5, by rw [q2.2.1]; exact g6, by rw [q2.2.2 f.slot (by simp [n1, n2])]; exact g7⟩
end StrChars.Road
namespace StrChars.Road
open Jvm Sem ClassFile Op Lib Jvm.Stand Jvm.Free Jvm.Free.XT
/-- WHAT COMES BACK, the byte[] as a list of values -/
def QA (Z : State) (x : Addr) (zn : Int32) (cs : List Int32) (h : Heap) (v : Option Value) (h' : Heap) (L : List Loc) : Prop := v = none ∧ (∀ y ∈ L, y.base = x) ∧ RoadKit.Keep h h' [x] ∧ h'.size = h.size + 1 ∧ RoadKit.Exa Z h' x ST ∧ RoadKit.Fld Z h' x ST "value" "[B" (.ref h.size) ∧ RoadKit.Fld Z h' x ST "coder" "B" (.int 0) ∧
  (∃ kb, Z.vm.findClass "[B" = some kb ∧ RoadKit.Arv Z h' h.size kb .byte zn (cs.map fun c => .int (lo8 c)) (.int 0)) ∧
  ∀ (O n d : String) (w : Value), RoadKit.Fld Z h x O n d w → RoadKit.slotOf Z O n d ≠ RoadKit.slotOf Z ST "value" "[B" → RoadKit.slotOf Z O n d ≠ RoadKit.slotOf Z ST "coder" "B" → RoadKit.Fld Z h' x O n d w
/-- **new String(chars) AT A CALL, THE ARRAYS AS LISTS**: the char[] at b holds cs, not empty, no char above 255 -/
theorem backArv {p : Program} {l : Launch} {e : Env} {R : Room} {s : State} {args : Array Value} {below : List Frame} {len W : Nat} {Z : State} {a0 : Array Value} {h : Heap} (hZ : Z.Warmed39 s.vm) (hw : ∀ d ∈ words, d.before a0 Z = true) {kI : Nat} (wi : (Jvm.Cond.instantiable ST kI).before a0 Z = true)
    {x b : Addr} {k : ClassId} {zn z : Int32} {cs : List Int32} {dv v0 c0 : Value} (E : RoadKit.Exa Z h x ST) (V : RoadKit.Fld Z h x ST "value" "[B" v0) (C : RoadKit.Fld Z h x ST "coder" "B" c0) (K : RoadKit.Arv Z h b k .char zn (cs.map Value.int) dv) (S : RoadKit.Sta Z h ST "COMPACT_STRINGS" "Z" (.int z)) (hz : ¬ z = 0)
    (hlen : zn.toNatClampNeg = cs.length) (h0 : 0 < cs.length) (hbig : cs.length ≤ 536870912) (hall : ∀ c ∈ cs, ¬ 255 < c) (hfr : 4 ≤ R.frames) (hlo : W + 65 ≤ R.locals) :
    Back l R p e below s args New1.yN len W (fun P a => a = #[.ref x, .ref b] ∧ P.U.heap = h ∧ P.cells + 1 ≤ R.cells ∧ P.slots + cs.length ≤ R.slots)
      (fun P _ v B => ∃ L, QA Z x zn cs h v B.U.heap L ∧ B.locs = P.locs ++ L ∧ B.cells = P.cells + 1 ∧ B.slots = P.slots + cs.length) := by
  obtain ⟨A, K1, K2, K3, K4, K5, K6⟩ := K
  have e : A.slots.size = cs.length := K3.trans hlen
  have hat : ∀ (i : Nat) (hi : i < cs.length), A.slots[i]? = some (.int cs[i]) := fun i hi => by rw [K5 i (by omega)]; simp [List.getD_eq_getElem?_getD, hi]
  have hcv : ∀ (i : Nat) (hi : i < cs.length), cv A i = cs[i] := fun i hi => by unfold cv; rw [hat i hi]
  have hty : Typed .char A := fun i v hv => by
    have hi : i < A.slots.size := (Array.getElem?_eq_some_iff.mp hv).1
    have q := K5 i hi
    rw [hv] at q
    rw [Option.some.inj q]
    exact K6 i hi
  refine Back.mono (back hZ hw wi E V C K1 hty S hz (by omega) (by omega) (fun i hi => by rw [hcv i (by omega)]; exact hall _ (List.getElem_mem _)) hfr hlo) (fun P a hp => ⟨hp.1, hp.2.1, hp.2.2.1, by rw [e]; exact hp.2.2.2⟩) (fun P a v B hp hq => ?_)
  obtain ⟨L, ⟨q1, q2, q3, q4, q5, q6, q7, ⟨V', v1, v2, v3, v4, v5⟩, q9⟩, hl, hc, hs⟩ := hq
  refine ⟨L, ⟨q1, q2, q3, q4, q5, q6, q7, ⟨V'.cls, v3, V', v1, rfl, by rw [v4, e, hlen], K4, fun i hi => ?_, fun i hi => ?_⟩, q9⟩, hl, hc, by rw [hs, e]⟩
  · have hi' : i < cs.length := by omega
    rw [v5 i (by omega), hcv i hi']; simp [List.getD_eq_getElem?_getD, hi']
  · have hi' : i < cs.length := by omega
    simp only [List.getD_eq_getElem?_getD, List.getElem?_map, List.getElem?_eq_getElem hi', Option.map_some, Option.getD_some]
    exact fits_lo8 _
end StrChars.Road
namespace StrChars.Road
open Jvm Sem ClassFile Op Lib Jvm.Stand Jvm.Free Jvm.Free.XT
/-- WHAT COMES BACK, in the writer's own shape -/
def QV (Z : State) (x : Addr) (N : Int32) (bs : List Int32) (h : Heap) (n0 : Nat) (v : Option Value) (h' : Heap) (L : List Loc) : Prop := v = none ∧ RoadKit.Fr n0 L ∧ RoadKit.Keep h h' [x] ∧ RoadKit.Exa Z h' x ST ∧ RoadKit.Fld Z h' x ST "coder" "B" (.int 0) ∧
  ∃ (t : Addr) (kb : ClassId), n0 ≤ t ∧ h.size ≤ t ∧ ¬ t = x ∧ RoadKit.Fld Z h' x ST "value" "[B" (.ref t) ∧ RoadKit.Arv Z h' t kb .byte N (bs.map Value.int) (.int 0)
/-- **new String(chars) AT A CALL, FOR THE WRITER**: a char[] of n known ints, each 0 to 255 -/
theorem backV {p : Program} {l : Launch} {e : Env} {R : Room} {s : State} {args : Array Value} {below : List Frame} {len W : Nat} {Z : State} {a0 : Array Value} {h : Heap} (hZ : Z.Warmed39 s.vm) (hw : ∀ d ∈ words, d.before a0 Z = true) {kI : Nat} (wi : (Jvm.Cond.instantiable ST kI).before a0 Z = true)
    {x b : Addr} {kC : ClassId} {cs bs : List Int32} {d v0 c0 : Value} {z N : Int32} {n n0 : Nat} (hx0 : n0 ≤ x) (hh0 : n0 ≤ h.size) (E : RoadKit.Exa Z h x ST) (V : RoadKit.Fld Z h x ST "value" "[B" v0) (C : RoadKit.Fld Z h x ST "coder" "B" c0) (K : RoadKit.Arv Z h b kC .char N (cs.map Value.int) d) (S : RoadKit.Sta Z h ST "COMPACT_STRINGS" "Z" (.int z)) (hz : ¬ z = 0)
    (hn : cs.length = n) (hN : N = Int32.ofNat n) (l0 : 0 < n) (l2 : n ≤ 4000) (hp : ∀ c ∈ cs, ¬ c < 0 ∧ ¬ (255 : Int32) < c) (hb : bs = cs.map (fun c => c.toInt8.toInt32)) (hfr : 4 ≤ R.frames) (hlo : W + 65 ≤ R.locals) :
    Back l R p e below s args (⟨"java/lang/String", "<init>", "([C)V"⟩ : MethodName) len W (fun P a => a = #[.ref x, .ref b] ∧ P.U.heap = h ∧ P.cells + 1 ≤ R.cells ∧ P.slots + n ≤ R.slots)
      (fun P _ v B => ∃ L, QV Z x N bs h n0 v B.U.heap L ∧ B.locs = P.locs ++ L ∧ B.cells = P.cells + 1 ∧ B.slots = P.slots + n) := by
  subst hn hN hb
  refine Back.mono (backArv hZ hw wi E V C K S hz (n32 (by omega)) l0 (by omega) (fun c hc => (hp c hc).2) hfr hlo) (fun P a hp => hp) (fun P a v B hp hq => ?_)
  obtain ⟨L, ⟨q1, q2, q3, q4, q5, q6, q7, ⟨kb, v1, v2⟩, q9⟩, hl, hc, hs⟩ := hq
  exact ⟨L, ⟨q1, fun y hy => by rw [q2 y hy]; exact hx0, q3, q5, q7, h.size, kb, hh0, Nat.le_refl _, Nat.ne_of_gt E.lt, q6, by rw [List.map_map]; exact v2⟩, hl, hc, hs⟩
end StrChars.Road
end Jvm.Pilot.@@N@@
namespace Jvm.Pilot.@@N@@
open Jvm Jvm.ClassFile Sem Op Lib Jvm.Free Jvm.Stand Jvm.LawKit Jvm.RoadKit Bundle Jvm.Pilot.@@N@@.Jvm.D
section OwnKit
variable {p : Program} {l : Launch} {e : Env} {R : Room} {s : State} {m : MethodId} {args : Array Value} {below : List Frame} {meth : Method} {c : Code} {T : State} {locs : List Loc} {cells slots : Nat} {Z : State} {a0 : Array Value} {h : Heap} {Q : Option Value → Heap → List Loc → Prop} {rc rs : Nat} {S S' : State}
/-- from S the body ends well -/
def own_go (p : Program) (e : Env) (below : List Frame) (s : State) (Q : Option Value → Heap → List Loc → Prop) (rc rs : Nat) (S : State) : Prop :=
  ∃ s₂ o, Steps p.tables e below S s₂ ∧ s₂.status = .running ∧ Ended s₂ below o ∧ ∃ v L, o = .returned v ∧ Q v s₂.heap L ∧ FrameEnd s o s₂ L rc rs
theorem own_st (k : ∀ t, Steps p.tables e below S' t → Steps p.tables e below S t) (g : own_go p e below s Q rc rs S') : own_go p e below s Q rc rs S := by
  obtain ⟨s₂, o, h1, h2⟩ := g
  exact ⟨s₂, o, k _ h1, h2⟩
theorem own_ret (X : Stand p l e R s m args below meth c T locs cells slots) (hx : p.tables.exec = Jvm.exec) (hlk : meth.locks = false) {pc : Nat} {Ls : Array Slot} {w : Value} {t : FieldType} {i : Instr} {rest : List Value} (hret : meth.sig.returnType = some t) (hn : narrow t w = w)
    (hi : (i = .ireturn ∧ (t = .int ∨ t = .boolean ∨ t = .byte ∨ t = .char ∨ t = .short) ∧ ∃ z, w = .int z) ∨ (i = .lreturn ∧ t = .long ∧ ∃ z, w = .long z) ∨ (i = .dreturn ∧ t = .double ∧ ∃ z, w = .double z) ∨ (i = .freturn ∧ t = .float ∧ ∃ z, w = .float z) ∨ (i = .areturn ∧ t.isReference = true ∧ w.isRef = true))
    (hd : decode c.code pc = .ok (i, 1)) (hc : cells ≤ rc) (hs : slots ≤ rs) (hQ : Q (some w) T.heap locs) : own_go p e below s Q rc rs (T.setTop (mkF m pc Ls (w :: rest))) := by
  obtain ⟨fs, hr, hrun, hended, hW, hsame⟩ := X.leave (v := some w) (fun h => by rw [hret] at h; cases h) hlk
  exact ⟨_, _, retOut X hx hret hn hi hd hr, hrun, hended, _, _, rfl, hQ, ⟨_, rfl⟩, hW, hsame.mono hc hs⟩
theorem own_retI (X : Stand p l e R s m args below meth c T locs cells slots) (hx : p.tables.exec = Jvm.exec) (hlk : meth.locks = false) {pc : Nat} {Ls : Array Slot} {z : Int32} {rest : List Value} (hret : meth.sig.returnType = some .int)
    (hd : decode c.code pc = .ok (.ireturn, 1)) (hc : cells ≤ rc) (hs : slots ≤ rs) (hQ : Q (some (.int z)) T.heap locs) : own_go p e below s Q rc rs (T.setTop (mkF m pc Ls (.int z :: rest))) :=
  own_ret X hx hlk hret rfl (Or.inl ⟨rfl, Or.inl rfl, z, rfl⟩) hd hc hs hQ
theorem own_retN (X : Stand p l e R s m args below meth c T locs cells slots) (hx : p.tables.exec = Jvm.exec) (hlk : meth.locks = false) {pc : Nat} {Ls : Array Slot} {z : Int32} {t : FieldType} {rest : List Value} (hret : meth.sig.returnType = some t) (ht : t = .boolean ∨ t = .byte ∨ t = .char ∨ t = .short) (hn : narrow t (.int z) = .int z)
    (hd : decode c.code pc = .ok (.ireturn, 1)) (hc : cells ≤ rc) (hs : slots ≤ rs) (hQ : Q (some (.int z)) T.heap locs) : own_go p e below s Q rc rs (T.setTop (mkF m pc Ls (.int z :: rest))) :=
  own_ret X hx hlk hret hn (Or.inl ⟨rfl, Or.inr ht, z, rfl⟩) hd hc hs hQ
theorem own_retJ (X : Stand p l e R s m args below meth c T locs cells slots) (hx : p.tables.exec = Jvm.exec) (hlk : meth.locks = false) {pc : Nat} {Ls : Array Slot} {z : Int64} {rest : List Value} (hret : meth.sig.returnType = some .long)
    (hd : decode c.code pc = .ok (.lreturn, 1)) (hc : cells ≤ rc) (hs : slots ≤ rs) (hQ : Q (some (.long z)) T.heap locs) : own_go p e below s Q rc rs (T.setTop (mkF m pc Ls (.long z :: rest))) :=
  own_ret X hx hlk hret rfl (Or.inr (Or.inl ⟨rfl, rfl, z, rfl⟩)) hd hc hs hQ
theorem own_retA (X : Stand p l e R s m args below meth c T locs cells slots) (hx : p.tables.exec = Jvm.exec) (hlk : meth.locks = false) {pc : Nat} {Ls : Array Slot} {w : Value} {t : FieldType} {rest : List Value} (hret : meth.sig.returnType = some t) (ht : t.isReference = true) (hw : w.isRef = true)
    (hd : decode c.code pc = .ok (.areturn, 1)) (hc : cells ≤ rc) (hs : slots ≤ rs) (hQ : Q (some w) T.heap locs) : own_go p e below s Q rc rs (T.setTop (mkF m pc Ls (w :: rest))) :=
  own_ret X hx hlk hret (by cases w <;> cases t <;> first | rfl | (simp [Value.isRef] at hw; done) | (simp [FieldType.isReference] at ht; done)) (Or.inr (Or.inr (Or.inr (Or.inr ⟨rfl, ht, hw⟩)))) hd hc hs hQ
theorem own_ret0 (X : Stand p l e R s m args below meth c T locs cells slots) (hx : p.tables.exec = Jvm.exec) (hlk : meth.locks = false) {pc : Nat} {Ls : Array Slot} (hret : meth.sig.returnType = none)
    (hd : decode c.code pc = .ok (.return_, 1)) (hc : cells ≤ rc) (hs : slots ≤ rs) (hQ : Q none T.heap locs) : own_go p e below s Q rc rs (T.setTop (mkF m pc Ls [])) := by
  obtain ⟨fs, hr, hrun, hended, hW, hsame⟩ := X.leave (v := none) (fun _ => rfl) hlk
  exact ⟨_, _, X.returnOut hx hret hd hr, hrun, hended, _, _, rfl, hQ, ⟨_, rfl⟩, hW, hsame.mono hc hs⟩
/-- a body's contract at a heap -/
def own_Met (l : Launch) (Z : State) (y : MethodName) (bytes : ByteArray) (maxL : Nat) (ret : Option FieldType) (ws : List Jvm.Cond) (rm : Room) (as' : Array Value) (h : Heap) (Q : Option Value → Heap → List Loc → Prop) : Prop :=
  MetFree l y (head1 (Jvm.Cond.code y bytes maxL ret :: ws) rm) (fun a U => a = as' ∧ Z.Warmed39 U.vm ∧ U.heap = h) (fun _ _ _ _ _ => True) (fun _ U o U' => ∃ v L, o = .returned v ∧ Q v U'.heap L ∧ FrameEnd U o U' L rm.cells rm.slots)
theorem own_body {y : MethodName} {bytes : ByteArray} {maxL : Nat} {ret : Option FieldType} {ws : List Jvm.Cond} {rm : Room} {as' : Array Value} (hp : plainFor y = true)
    (k : ∀ (p : Program) (e : Env) (s : State) (m : MethodId) (below : List Frame) (meth : Method) (c : Code) (s₁ : State), p.tables.exec = Jvm.exec → c.code = bytes → c.maxLocals = maxL → s.vm.findClass y.cls = some m.cls → meth.name = y.name → meth.sig.returnType = ret → meth.locks = false → Stand p l e rm s m as' below meth c s₁ [] 0 0 → Z.Warmed39 s.vm → s₁.heap = h → own_go p e below s Q rm.cells rm.slots (s₁.setTop (entryFrame m as' maxL))) :
    own_Met l Z y bytes maxL ret ws rm as' h Q := by
  refine MetFree.of_bodySF hp hisR ?_
  intro p e s m args below meth c s₁ Bd hml0 hP hK
  obtain ⟨rfl, hZ, hh⟩ := hP
  exact k p e s m below meth c s₁ Bd.exec Bd.bytes hml0 (findClass_of_methodNamed Bd.named) (name_of_methodNamed Bd.named Bd.method).1 Bd.returns Bd.notSynchronized (Stand.of_body Bd) hZ (by rw [← hh, Bd.state]; rfl)
theorem own_callS (X : Stand p l e R s m args below meth c T locs cells slots) (hx : p.tables.exec = Jvm.exec) (hZ : Z.Warmed39 s.vm) {own : String} {index : Nat} {y : MethodName} {bytes : ByteArray} {maxL : Nat} {ret : Option FieldType} {rm : Room} {argsL rest : List Value} {Q' : Option Value → Heap → List Loc → Prop}
    (hM : own_Met l Z y bytes maxL ret [] rm argsL.toArray h Q') (hown : s.vm.findClass own = some m.cls) (w1 : (Jvm.Cond.methodLink own index y).before a0 Z = true) (w2 : (Jvm.Cond.static y).before a0 Z = true) (w3 : (Jvm.Cond.initialized y.cls).before a0 Z = true) (w4 : (Jvm.Cond.code y bytes maxL ret).before a0 Z = true)
    (hy : y.cls ≠ "java/lang/invoke/MethodHandle" ∧ y.cls ≠ "java/lang/invoke/VarHandle") (eT : T.heap = h) {g : JFrame} (hg : g.method = m) (hsize : g.locals.size = c.maxLocals) (hlen : ∀ sig, parseMethodDescriptor y.desc = some sig → argsL.length = sig.parameters.length) (hstack : g.stack = argsL.reverse ++ rest) {W : Nat} (hW : 2 * g.monitorRoom + (rest.map fun v => v.category).sum ≤ W)
    (hd : decode c.code g.pc = .ok (.invokestatic index, 3)) (hf : rm.frames + 1 ≤ R.frames) (hl : W + (maxL + 11) + rm.locals ≤ R.locals) (hc : cells + rm.cells ≤ R.cells) (hs : slots + rm.slots ≤ R.slots) :
    ∃ v T' L, Stand p l e R s m args below meth c T' (locs ++ L) (cells + rm.cells) (slots + rm.slots) ∧ Q' v T'.heap L ∧ ∀ target, Steps p.tables e below (T'.setTop { g with pc := g.pc + 3, stack := v.toList ++ rest }) target → Steps p.tables e below (T.setTop g) target := by
  obtain ⟨v, _, ⟨T1, L1, k1, n1⟩, -, X1, ⟨Lc, hQ, l1, y1, z1⟩, st⟩ := Jvm.LawKit.callS X hx (y := y) hown (mvT hZ w1) (mvT hZ w2) (mvT hZ w3) (mvT hZ w4) hy (backOf (W := W) hM hZ w4 w3 hf hl) hg hsize hlen hstack hW hd (fun _ _ => ⟨rfl, eT, hc, hs⟩)
  dsimp only [Pt.U, Pt.locs, Pt.cells, Pt.slots] at X1 l1 y1 z1 st hQ
  subst l1 y1 z1
  exact ⟨v, T1, Lc, X1, hQ, st⟩
theorem own_callV (X : Stand p l e R s m args below meth c T locs cells slots) (hx : p.tables.exec = Jvm.exec) (hZ : Z.Warmed39 s.vm) {own C : String} {index : Nat} {y z : MethodName} {bytes : ByteArray} {maxL : Nat} {ret : Option FieldType} {rm : Room} {b : Addr} {argsL rest : List Value} {Q' : Option Value → Heap → List Loc → Prop}
    (hM : own_Met l Z z bytes maxL ret [] rm (.ref b :: argsL).toArray h Q') (hown : s.vm.findClass own = some m.cls) (w1 : (Jvm.Cond.methodLink own index y).before a0 Z = true) (w2 : (Jvm.Cond.declares y).before a0 Z = true) (nf : NotFace s y) (w3 : (Jvm.Cond.selects C y z).before a0 Z = true) (w5 : (Jvm.Cond.instanceMethod z).before a0 Z = true)
    (w6 : (Jvm.Cond.initialized z.cls).before a0 Z = true) (w4 : (Jvm.Cond.code z bytes maxL ret).before a0 Z = true)
    (hy : y.cls ≠ "java/lang/invoke/MethodHandle" ∧ y.cls ≠ "java/lang/invoke/VarHandle") (eT : T.heap = h) (E : Exa Z h b C) {g : JFrame} (hg : g.method = m) (hsize : g.locals.size = c.maxLocals) (hlen : ∀ sig, parseMethodDescriptor y.desc = some sig → argsL.length = sig.parameters.length) (hstack : g.stack = argsL.reverse ++ .ref b :: rest) {W : Nat} (hW : 2 * g.monitorRoom + (rest.map fun v => v.category).sum ≤ W)
    (hd : decode c.code g.pc = .ok (.invokevirtual index, 3)) (hf : rm.frames + 1 ≤ R.frames) (hl : W + (maxL + 11) + rm.locals ≤ R.locals) (hc : cells + rm.cells ≤ R.cells) (hs : slots + rm.slots ≤ R.slots) :
    ∃ v T' L, Stand p l e R s m args below meth c T' (locs ++ L) (cells + rm.cells) (slots + rm.slots) ∧ Q' v T'.heap L ∧ ∀ target, Steps p.tables e below (T'.setTop { g with pc := g.pc + 3, stack := v.toList ++ rest }) target → Steps p.tables e below (T.setTop g) target := by
  obtain ⟨cq, kq, qa, qb, qc⟩ := isOf hZ eT E
  obtain ⟨v, _, ⟨T1, L1, k1, n1⟩, -, X1, ⟨Lc, hQ, l1, y1, z1⟩, st⟩ := X.virtualBack hx (y := y) (z := z) hown (mvT hZ w1) (mvT hZ w2) nf (mvT hZ w3) (mvT hZ w5) hy (backOf (W := W) hM hZ w4 w6 hf hl) qa qc hg hsize (Steps.refl _) hlen hstack hW hd (fun _ _ => ⟨rfl, eT, hc, hs⟩)
  dsimp only [Pt.U, Pt.locs, Pt.cells, Pt.slots] at X1 l1 y1 z1 st hQ
  subst l1 y1 z1
  exact ⟨v, T1, Lc, X1, hQ, fun _ k => st.trans k⟩
theorem own_callU (X : Stand p l e R s m args below meth c T locs cells slots) (hx : p.tables.exec = Jvm.exec) (hZ : Z.Warmed39 s.vm) {own C owner : String} {index : Nat} {y z : MethodName} {bytes : ByteArray} {maxL : Nat} {ret : Option FieldType} {rm : Room} {b : Addr} {argsL rest : List Value} {Q' : Option Value → Heap → List Loc → Prop}
    (hM : own_Met l Z z bytes maxL ret [] rm (.ref b :: argsL).toArray h Q') (hown : s.vm.findClass own = some m.cls) (w1 : (Jvm.Cond.methodLink own index y).before a0 Z = true) (w2 : (Jvm.Cond.sameMethod y.cls owner y.name y.desc).before a0 Z = true) (w7 : (Jvm.Cond.declares ⟨owner, y.name, y.desc⟩).before a0 Z = true) (w3 : (Jvm.Cond.selects C y z).before a0 Z = true) (w5 : (Jvm.Cond.instanceMethod z).before a0 Z = true)
    (w6 : (Jvm.Cond.initialized z.cls).before a0 Z = true) (w4 : (Jvm.Cond.code z bytes maxL ret).before a0 Z = true)
    (hy : owner ≠ "java/lang/invoke/MethodHandle" ∧ owner ≠ "java/lang/invoke/VarHandle") (eT : T.heap = h) (E : Exa Z h b C) {g : JFrame} (hg : g.method = m) (hsize : g.locals.size = c.maxLocals) (hlen : ∀ sig, parseMethodDescriptor y.desc = some sig → argsL.length = sig.parameters.length) (hstack : g.stack = argsL.reverse ++ .ref b :: rest) {W : Nat} (hW : 2 * g.monitorRoom + (rest.map fun v => v.category).sum ≤ W)
    (hd : decode c.code g.pc = .ok (.invokevirtual index, 3)) (hf : rm.frames + 1 ≤ R.frames) (hl : W + (maxL + 11) + rm.locals ≤ R.locals) (hc : cells + rm.cells ≤ R.cells) (hs : slots + rm.slots ≤ R.slots) :
    ∃ v T' L, Stand p l e R s m args below meth c T' (locs ++ L) (cells + rm.cells) (slots + rm.slots) ∧ Q' v T'.heap L ∧ ∀ target, Steps p.tables e below (T'.setTop { g with pc := g.pc + 3, stack := v.toList ++ rest }) target → Steps p.tables e below (T.setTop g) target := by
  obtain ⟨cq, kq, qa, qb, qc⟩ := isOf hZ eT E
  obtain ⟨v, _, ⟨T1, L1, k1, n1⟩, -, X1, ⟨Lc, hQ, l1, y1, z1⟩, st⟩ := X.virtualBackUp hx (x := y) (y := z) hown (mvT hZ w1) (mvT hZ w2) (mvT hZ w7) hy (mvT hZ w3) (mvT hZ w5) (backOf (W := W) hM hZ w4 w6 hf hl) qa qc hg hsize (Steps.refl _) hlen hstack hW hd (fun _ _ => ⟨rfl, eT, hc, hs⟩)
  dsimp only [Pt.U, Pt.locs, Pt.cells, Pt.slots] at X1 l1 y1 z1 st hQ
  subst l1 y1 z1
  exact ⟨v, T1, Lc, X1, hQ, fun _ k => st.trans k⟩
theorem own_callN (X : Stand p l e R s m args below meth c T locs cells slots) (hx : p.tables.exec = Jvm.exec) (hZ : Z.Warmed39 s.vm) {own : String} {index : Nat} {y : MethodName} {bytes : ByteArray} {maxL : Nat} {rm : Room} {b : Addr} {argsL rest : List Value} {Q' : Option Value → Heap → List Loc → Prop}
    (hM : own_Met l Z y bytes maxL none [] rm (.ref b :: argsL).toArray h Q') (hi : y.name = "<init>") (hown : s.vm.findClass own = some m.cls) (w1 : (Jvm.Cond.methodLink own index y).before a0 Z = true) (w2 : (Jvm.Cond.instanceMethod y).before a0 Z = true)
    (w3 : (Jvm.Cond.initialized y.cls).before a0 Z = true) (w4 : (Jvm.Cond.code y bytes maxL none).before a0 Z = true)
    (hy : y.cls ≠ "java/lang/invoke/MethodHandle" ∧ y.cls ≠ "java/lang/invoke/VarHandle") (eT : T.heap = h) {g : JFrame} (hg : g.method = m) (hsize : g.locals.size = c.maxLocals) (hlen : ∀ sig, parseMethodDescriptor y.desc = some sig → argsL.length = sig.parameters.length) (hstack : g.stack = argsL.reverse ++ .ref b :: rest) {W : Nat} (hW : 2 * g.monitorRoom + (rest.map fun v => v.category).sum ≤ W)
    (hd : decode c.code g.pc = .ok (.invokespecial index, 3)) (hf : rm.frames + 1 ≤ R.frames) (hl : W + (maxL + 11) + rm.locals ≤ R.locals) (hc : cells + rm.cells ≤ R.cells) (hs : slots + rm.slots ≤ R.slots) :
    ∃ v T' L, Stand p l e R s m args below meth c T' (locs ++ L) (cells + rm.cells) (slots + rm.slots) ∧ Q' v T'.heap L ∧ ∀ target, Steps p.tables e below (T'.setTop { g with pc := g.pc + 3, stack := v.toList ++ rest }) target → Steps p.tables e below (T.setTop g) target := by
  obtain ⟨v, _, ⟨T1, L1, k1, n1⟩, -, X1, ⟨Lc, hQ, l1, y1, z1⟩, st⟩ := X.specialBack hx (y := y) hi hown (mvT hZ w1) (mvT hZ w2) (mvT hZ w4) hy (backOf (W := W) hM hZ w4 w3 hf hl) hg hsize (Steps.refl _) hlen hstack hW hd (fun _ _ => ⟨rfl, eT, hc, hs⟩)
  dsimp only [Pt.U, Pt.locs, Pt.cells, Pt.slots] at X1 l1 y1 z1 st hQ
  subst l1 y1 z1
  exact ⟨v, T1, Lc, X1, hQ, fun _ k => st.trans k⟩
/-- a reference laid into an array that the walk has made -/
theorem own_put (X : Stand p l e R s m args below meth c T locs cells slots) (hx : p.tables.exec = Jvm.exec) (hZ : Z.Warmed39 s.vm) (eT : T.heap = h) {a : Addr} {k : ClassId} {C : String} {z : Int32} {vs : List Value} {dv : Value} (V : Arv Z h a k (.object C) z vs dv) (O : Ovr Z k C) {y : Addr} (I : Ins Z h y C true) {j : Int32} (hj : ¬ j < 0 ∧ j < z) (i : Nat) (hi : j.toNatClampNeg = i) (hl : i < vs.length)
    {g : JFrame} (hg : g.method = m) {rest : List Value} (hs : g.stack = .ref y :: .int j :: .ref a :: rest) (hd : decode c.code g.pc = .ok (.aastore, 1)) :
    ∃ T' h', Stand p l e R s m args below meth c T' (locs ++ [⟨a, j.toNatClampNeg⟩]) cells slots ∧ T'.heap = h' ∧ Wr h h' a j.toNatClampNeg (.ref y) ∧ Arv Z h' a k (.object C) z (vs.set i (.ref y)) dv ∧ ∀ target, Steps p.tables e below (T'.setTop { g with pc := g.pc + 1, stack := rest }) target → Steps p.tables e below (T.setTop g) target := by
  obtain ⟨cl, A, q1, S, q3, H, G⟩ := V
  obtain ⟨T', h', X', e', W, st⟩ := stR X hx hZ eT A (j := j) (inb_of S hj) rfl (Sto.ofV A q1 O I) hg hs hd
  exact ⟨T', h', X', e', W, Arv.set A q1 S q3 H G rfl W i hi hl, st⟩
theorem own_get (X : Stand p l e R s m args below meth c T locs cells slots) (hx : p.tables.exec = Jvm.exec) (hZ : Z.Warmed39 s.vm) (eT : T.heap = h) {a : Addr} {k : ClassId} {ty : FieldType} {z : Int32} {vs : List Value} {dv : Value} (V : Arv Z h a k ty z vs dv) (hty : ty.isReference = true) {j : Int32} (hj : ¬ j < 0 ∧ j < z) {v : Value} (hv : vs.getD j.toNatClampNeg dv = v)
    {g : JFrame} (hg : g.method = m) {rest : List Value} (hs : g.stack = .int j :: .ref a :: rest) (hd : decode c.code g.pc = .ok (.aaload, 1)) :
    ∀ target, Steps p.tables e below (T.setTop { g with pc := g.pc + 1, stack := v :: rest }) target → Steps p.tables e below (T.setTop g) target := by
  obtain ⟨cl, A, q1, S, q3, H, G⟩ := V
  intro target k
  exact X.aaload hx (by rw [eT]; exact A.1) (State.isArrayOf_alike hZ.alike A.2.1) hty A.2.2 (inb_of S hj) (H.at (inb_of S hj) hv) hg hs hd target k
/-- an array of references of a written length, made -/
theorem own_arr (X : Stand p l e R s m args below meth c T locs cells slots) (hx : p.tables.exec = Jvm.exec) (hZ : Z.Warmed39 s.vm) {own C : String} {index : Nat} (hown : s.vm.findClass own = some m.cls) (w1 : (Jvm.Cond.classLink own index C).before a0 Z = true) (w2 : (Jvm.Cond.arrayOver (.object C)).before a0 Z = true) (eT : T.heap = h)
    {g : JFrame} (hg : g.method = m) (hd : decode c.code g.pc = .ok (.anewarray index, 3)) {n : Int32} {rest : List Value} (hs : g.stack = .int n :: rest) (hn : ¬ n < 0) {cap : Nat} (hcap : n.toNatClampNeg ≤ cap) (hb : cap * 8 ≤ 536870912) (hc : cells + 1 ≤ R.cells) (hl : slots + cap ≤ R.slots) {ad : String} (had : "[" ++ (FieldType.object C).toString = ad) :
    ∃ T' h' k a, Stand p l e R s m args below meth c T' locs (cells + 1) (slots + cap) ∧ T'.heap = h' ∧ a = h.size ∧ Ext h h' ∧ Arv Z h' a k (.object C) n (List.replicate cap .null) .null ∧ Exa Z h' a ad ∧ Ovr Z k C ∧
      ∀ target, Steps p.tables e below (T'.setTop { g with pc := g.pc + 3, stack := .ref a :: rest }) target → Steps p.tables e below (T.setTop g) target := by
  obtain ⟨T', h', k, X', e', E, A, Ex, O, st⟩ := newRE X hx hZ hown w1 w2 eT hg hd hs hn hcap hb hc hl had
  exact ⟨T', h', k, _, X', e', rfl, E, (Arv.new A hn).pad (pad_rep [] .null cap), Ex, O, st⟩
theorem own_len (X : Stand p l e R s m args below meth c T locs cells slots) (hx : p.tables.exec = Jvm.exec) (hZ : Z.Warmed39 s.vm) (eT : T.heap = h) {a : Addr} {k : ClassId} {ty : FieldType} {z : Int32} {vs : List Value} {dv : Value} (V : Arv Z h a k ty z vs dv)
    {g : JFrame} (hg : g.method = m) {rest : List Value} (hs : g.stack = .ref a :: rest) (hd : decode c.code g.pc = .ok (.arraylength, 1)) :
    ∀ target, Steps p.tables e below (T.setTop { g with pc := g.pc + 1, stack := .int z :: rest }) target → Steps p.tables e below (T.setTop g) target := by
  obtain ⟨cl, A, q1, S, q3, H, G⟩ := V
  intro target k
  refine X.arraylength hx (by rw [eT]; exact A.1) (State.isArrayOf_alike hZ.alike A.2.1) hg hs hd _ ?_
  rw [len_of S q3]
  exact k
theorem own_osz {n0 : Nat} (O : Old Z n0 h) : n0 ≤ h.size := by have := O.2.1; rw [O.1] at this; exact this
theorem own_fldI {t : Term} {C n d : String} {k : Int32} {a : Addr} (ev : t.eval args Z none [] Z = some (.ref a)) (hh : (Jvm.Cond.eq (Term.field t C n d) (Term.int k)).value args Z none Z [] = some true) : Fld Z Z.heap a C n d (.int k) := by
  refine Fld.start ?_
  rw [← fld_at (t := t) (args := args) (first := Z) (o := none) (idx := []) ev]
  cases hq : (Term.field t C n d).eval args Z none [] Z with
  | none => simp [Cond.value, hq] at hh
  | some v =>
    simp only [Cond.value, hq, Term.int_eval] at hh
    cases v <;> simp at hh ⊢ <;> exact hh
theorem own_fldJ {t : Term} {C n d : String} {k : Int64} {a : Addr} (ev : t.eval args Z none [] Z = some (.ref a)) (hh : (Jvm.Cond.eq (Term.field t C n d) (Term.long k)).value args Z none Z [] = some true) : Fld Z Z.heap a C n d (.long k) := by
  refine Fld.start ?_
  rw [← fld_at (t := t) (args := args) (first := Z) (o := none) (idx := []) ev]
  cases hq : (Term.field t C n d).eval args Z none [] Z with
  | none => simp [Cond.value, hq] at hh
  | some v =>
    have hk : (Term.long k).eval args Z none [] Z = some (.long k) := rfl
    simp only [Cond.value, hq, hk] at hh
    cases v <;> simp at hh ⊢ <;> exact hh
theorem own_fldN {t : Term} {C n d : String} {a : Addr} (ev : t.eval args Z none [] Z = some (.ref a)) (hh : (Jvm.Cond.eq (Term.field t C n d) Term.null).value args Z none Z [] = some true) : Fld Z Z.heap a C n d .null := by
  refine Fld.start ?_
  rw [← fld_at (t := t) (args := args) (first := Z) (o := none) (idx := []) ev]
  exact null_v hh
theorem own_fldR {t u : Term} {C n d : String} {a b : Addr} (ev : t.eval args Z none [] Z = some (.ref a)) (eu : u.eval args Z none [] Z = some (.ref b)) (hh : (Jvm.Cond.eq (Term.field t C n d) u).value args Z none Z [] = some true) : Fld Z Z.heap a C n d (.ref b) := by
  refine Fld.start ?_
  rw [← fld_at (t := t) (args := args) (first := Z) (o := none) (idx := []) ev]
  cases hq : (Term.field t C n d).eval args Z none [] Z with
  | none => simp [Cond.value, hq] at hh
  | some v => cases v <;> simp [Cond.value, hq, eu] at hh ⊢ <;> exact hh
theorem own_fldX {t : Term} {C n d K : String} {a : Addr} (ev : t.eval args Z none [] Z = some (.ref a)) (hh : (Jvm.Cond.exactly (Term.field t C n d) K).value args Z none Z [] = some true) : ∃ b, Fld Z Z.heap a C n d (.ref b) ∧ Exa Z Z.heap b K := by
  obtain ⟨b, hb⟩ := exa_v hh
  refine ⟨b, Fld.start ?_, Exa.start hb hh⟩
  rw [← fld_at (t := t) (args := args) (first := Z) (o := none) (idx := []) ev]
  exact hb
theorem own_ne {h : Heap} {a b : Addr} {C n d : String} {i j : Int32} (F : Fld Z h a C n d (.int i)) (G : Fld Z h b C n d (.int j)) (q : i ≠ j) : a ≠ b := F.ne G fun r => q (Value.int.inj r)
end OwnKit
section OwnKit3
variable {p : Program} {l : Launch} {e : Env} {R : Room} {s : State} {m : MethodId} {args : Array Value} {below : List Frame} {meth : Method} {c : Code} {T : State} {locs : List Loc} {cells slots : Nat} {Z : State} {a0 : Array Value} {h : Heap}
/-- an array of a primitive kind of a written length, made -/
theorem own_newP (X : Stand p l e R s m args below meth c T locs cells slots) (hx : p.tables.exec = Jvm.exec) (hZ : Z.Warmed39 s.vm) {aty : ArrayType} (w : (Jvm.Cond.arrayClass (newarray.typeOf aty)).before a0 Z = true) (eT : T.heap = h)
    {g : JFrame} (hg : g.method = m) (hd : decode c.code g.pc = .ok (.newarray aty, 2)) {n : Int32} {rest : List Value} (hs : g.stack = .int n :: rest) (hn : ¬ n < 0) {cap : Nat} (hcap : n.toNatClampNeg ≤ cap) (hb : cap * 8 ≤ 536870912) (hc : cells + 1 ≤ R.cells) (hl : slots + cap ≤ R.slots) :
    ∃ T' h' k a, Stand p l e R s m args below meth c T' locs (cells + 1) (slots + cap) ∧ T'.heap = h' ∧ a = h.size ∧ Ext h h' ∧ Arv Z h' a k (newarray.typeOf aty) n (List.replicate cap (defaultValue (newarray.typeOf aty))) (defaultValue (newarray.typeOf aty)) ∧
      ∀ target, Steps p.tables e below (T'.setTop { g with pc := g.pc + 2, stack := .ref a :: rest }) target → Steps p.tables e below (T.setTop g) target := by
  obtain ⟨T', h', k, X', e', E, A, st⟩ := newP X hx hZ w eT hg hd hs hn hcap hb hc hl
  exact ⟨T', h', k, _, X', e', rfl, E, (Arv.new A hn).pad (pad_rep [] _ cap), st⟩
theorem own_putC (X : Stand p l e R s m args below meth c T locs cells slots) (hx : p.tables.exec = Jvm.exec) (hZ : Z.Warmed39 s.vm) (eT : T.heap = h) {a : Addr} {k : ClassId} {z : Int32} {vs : List Value} {dv : Value} (V : Arv Z h a k .char z vs dv) {j x y : Int32} (hxy : nar .char x = y) (hj : ¬ j < 0 ∧ j < z) (i : Nat) (hi : j.toNatClampNeg = i) (hl : i < vs.length)
    {g : JFrame} (hg : g.method = m) {rest : List Value} (hs : g.stack = .int x :: .int j :: .ref a :: rest) (hd : decode c.code g.pc = .ok (.castore, 1)) :
    ∃ T' h', Stand p l e R s m args below meth c T' (locs ++ [⟨a, j.toNatClampNeg⟩]) cells slots ∧ T'.heap = h' ∧ Wr h h' a j.toNatClampNeg (.int y) ∧ Arv Z h' a k .char z (vs.set i (.int y)) dv ∧ ∀ target, Steps p.tables e below (T'.setTop { g with pc := g.pc + 1, stack := rest }) target → Steps p.tables e below (T.setTop g) target := by
  subst hxy
  obtain ⟨cl, A, q1, S, q3, H, G⟩ := V
  obtain ⟨T', h', X', e', W, st⟩ := stC X hx hZ eT A (j := j) (inb_of S hj) hg hs hd
  exact ⟨T', h', X', e', W, Arv.set A q1 S q3 H G (fits_nar_char x) W i hi hl, st⟩
theorem own_putB (X : Stand p l e R s m args below meth c T locs cells slots) (hx : p.tables.exec = Jvm.exec) (hZ : Z.Warmed39 s.vm) (eT : T.heap = h) {a : Addr} {k : ClassId} {z : Int32} {vs : List Value} {dv : Value} (V : Arv Z h a k .byte z vs dv) {j x y : Int32} (hxy : nar .byte x = y) (hj : ¬ j < 0 ∧ j < z) (i : Nat) (hi : j.toNatClampNeg = i) (hl : i < vs.length)
    {g : JFrame} (hg : g.method = m) {rest : List Value} (hs : g.stack = .int x :: .int j :: .ref a :: rest) (hd : decode c.code g.pc = .ok (.bastore, 1)) :
    ∃ T' h', Stand p l e R s m args below meth c T' (locs ++ [⟨a, j.toNatClampNeg⟩]) cells slots ∧ T'.heap = h' ∧ Wr h h' a j.toNatClampNeg (.int y) ∧ Arv Z h' a k .byte z (vs.set i (.int y)) dv ∧ ∀ target, Steps p.tables e below (T'.setTop { g with pc := g.pc + 1, stack := rest }) target → Steps p.tables e below (T.setTop g) target := by
  subst hxy
  obtain ⟨cl, A, q1, S, q3, H, G⟩ := V
  obtain ⟨T', h', X', e', W, st⟩ := stB X hx hZ eT A (j := j) (inb_of S hj) hg hs hd
  exact ⟨T', h', X', e', W, Arv.set A q1 S q3 H G (fits_nar_byte x) W i hi hl, st⟩
theorem own_nz {t : Term} {k z : Int32} (ev : t.eval args Z none [] Z = some (.int z)) (hh : (Jvm.Cond.not (Jvm.Cond.eq t (Term.int k))).value args Z none Z [] = some true) : ¬ z = k := by
  have q := not_v hh
  simp only [Cond.value, ev, Term.int_eval] at q
  simpa using q
theorem own_255 (x : Int32) : ¬ (255 : Int32) < x &&& 255 := by
  have h1 := c_and x 255 (by decide)
  rw [Int32.lt_iff_toInt_lt]; omega
theorem own_p255 (x : Int32) : ¬ x &&& 255 < 0 ∧ ¬ (255 : Int32) < x &&& 255 := by
  have h1 := c_and x 255 (by decide)
  refine ⟨?_, own_255 x⟩
  rw [Int32.lt_iff_toInt_lt]; have : (0 : Int32).toInt = 0 := rfl
  omega
end OwnKit3
section OwnKitW
variable {p : Program} {l : Launch} {e : Env} {R : Room} {s : State} {m : MethodId} {args : Array Value} {below : List Frame} {meth : Method} {c : Code} {T : State} {locs : List Loc} {cells slots : Nat} {Z : State} {a0 : Array Value} {h h' : Heap} {Q : Option Value → Heap → List Loc → Prop} {rc rs : Nat} {S S' : State} {EL : List (String × Nat)} {vm vm0 : Vm} {k0 : Nat}
/-- from S the body ends well; String constants may have been loaded meanwhile -/
def own_goW (Z : State) (EL : List (String × Nat)) (p : Program) (e : Env) (below : List Frame) (s : State) (h : Heap) (Q : Option Value → Heap → List Loc → Prop) (rc rs : Nat) (S : State) : Prop :=
  ∃ s₂ o, Steps p.tables e below S s₂ ∧ s₂.status = .running ∧ Ended s₂ below o ∧ ∃ v L, o = .returned v ∧ Q v s₂.heap L ∧ CHr Z EL s.vm h s₂.vm s₂.heap ∧ ReturnedEndW s o s₂ L rc rs
theorem own_stW (k : ∀ t, Steps p.tables e below S' t → Steps p.tables e below S t) (g : own_goW Z EL p e below s h Q rc rs S') : own_goW Z EL p e below s h Q rc rs S := by
  obtain ⟨s₂, o, h1, h2⟩ := g
  exact ⟨s₂, o, k _ h1, h2⟩
theorem own_endW {L : List Loc} {k n k' n' : Nat} {o : Outcome} {t : State} (q : ReturnedEndW s o t L k n) (h1 : k ≤ k') (h2 : n ≤ n') : ReturnedEndW s o t L k' n' := ⟨q.1, q.2.1, q.2.2.1, q.2.2.2.mono h1 h2⟩
theorem own_retW (X : Stand p l e R (s.setVm vm0) m args below meth c T locs cells slots) (hx : p.tables.exec = Jvm.exec) (hlk : meth.locks = false) (hS : s.Since vm0 k0) (hk : k0 ≤ h'.size) (hZ : Z.Warmed39 vm0) (hEL : EW Z a0 EL) (C : CHr Z EL s.vm h vm0 h') (eT : T.heap = h') {pc : Nat} {Ls : Array Slot} {w : Value} {t : FieldType} {i : Instr} {rest : List Value} (hret : meth.sig.returnType = some t) (hn : narrow t w = w)
    (hi : (i = .ireturn ∧ (t = .int ∨ t = .boolean ∨ t = .byte ∨ t = .char ∨ t = .short) ∧ ∃ z, w = .int z) ∨ (i = .lreturn ∧ t = .long ∧ ∃ z, w = .long z) ∨ (i = .dreturn ∧ t = .double ∧ ∃ z, w = .double z) ∨ (i = .freturn ∧ t = .float ∧ ∃ z, w = .float z) ∨ (i = .areturn ∧ t.isReference = true ∧ w.isRef = true))
    (hd : decode c.code pc = .ok (i, 1)) (hc : cells ≤ rc) (hs : slots ≤ rs) (hQ : Q (some w) T.heap locs) : own_goW Z EL p e below s h Q rc rs (T.setTop (mkF m pc Ls (w :: rest))) := by
  obtain ⟨fs, hr, hrun, hended, hW⟩ := X.leaveW hS (by rw [eT]; exact hk) (v := some w) (fun h => by rw [hret] at h; cases h) hlk
  have C2 := C.trans (CHv.at X hZ hEL C.1)
  refine ⟨_, _, retOut X hx hret hn hi hd hr, hrun, hended, _, _, rfl, hQ, ?_, own_endW hW hc hs⟩
  show CHr Z EL s.vm h T.vm T.heap
  rw [eT]; exact C2
theorem own_retIW (X : Stand p l e R (s.setVm vm0) m args below meth c T locs cells slots) (hx : p.tables.exec = Jvm.exec) (hlk : meth.locks = false) (hS : s.Since vm0 k0) (hk : k0 ≤ h'.size) (hZ : Z.Warmed39 vm0) (hEL : EW Z a0 EL) (C : CHr Z EL s.vm h vm0 h') (eT : T.heap = h') {pc : Nat} {Ls : Array Slot} {z : Int32} {rest : List Value} (hret : meth.sig.returnType = some .int)
    (hd : decode c.code pc = .ok (.ireturn, 1)) (hc : cells ≤ rc) (hs : slots ≤ rs) (hQ : Q (some (.int z)) T.heap locs) : own_goW Z EL p e below s h Q rc rs (T.setTop (mkF m pc Ls (.int z :: rest))) :=
  own_retW X hx hlk hS hk hZ hEL C eT hret rfl (Or.inl ⟨rfl, Or.inl rfl, z, rfl⟩) hd hc hs hQ
theorem own_retNW (X : Stand p l e R (s.setVm vm0) m args below meth c T locs cells slots) (hx : p.tables.exec = Jvm.exec) (hlk : meth.locks = false) (hS : s.Since vm0 k0) (hk : k0 ≤ h'.size) (hZ : Z.Warmed39 vm0) (hEL : EW Z a0 EL) (C : CHr Z EL s.vm h vm0 h') (eT : T.heap = h') {pc : Nat} {Ls : Array Slot} {z : Int32} {t : FieldType} {rest : List Value} (hret : meth.sig.returnType = some t) (ht : t = .boolean ∨ t = .byte ∨ t = .char ∨ t = .short) (hn : narrow t (.int z) = .int z)
    (hd : decode c.code pc = .ok (.ireturn, 1)) (hc : cells ≤ rc) (hs : slots ≤ rs) (hQ : Q (some (.int z)) T.heap locs) : own_goW Z EL p e below s h Q rc rs (T.setTop (mkF m pc Ls (.int z :: rest))) :=
  own_retW X hx hlk hS hk hZ hEL C eT hret hn (Or.inl ⟨rfl, Or.inr ht, z, rfl⟩) hd hc hs hQ
theorem own_retAW (X : Stand p l e R (s.setVm vm0) m args below meth c T locs cells slots) (hx : p.tables.exec = Jvm.exec) (hlk : meth.locks = false) (hS : s.Since vm0 k0) (hk : k0 ≤ h'.size) (hZ : Z.Warmed39 vm0) (hEL : EW Z a0 EL) (C : CHr Z EL s.vm h vm0 h') (eT : T.heap = h') {pc : Nat} {Ls : Array Slot} {w : Value} {t : FieldType} {rest : List Value} (hret : meth.sig.returnType = some t) (ht : t.isReference = true) (hw : w.isRef = true)
    (hd : decode c.code pc = .ok (.areturn, 1)) (hc : cells ≤ rc) (hs : slots ≤ rs) (hQ : Q (some w) T.heap locs) : own_goW Z EL p e below s h Q rc rs (T.setTop (mkF m pc Ls (w :: rest))) :=
  own_retW X hx hlk hS hk hZ hEL C eT hret (by cases w <;> cases t <;> first | rfl | (simp [Value.isRef] at hw; done) | (simp [FieldType.isReference] at ht; done)) (Or.inr (Or.inr (Or.inr (Or.inr ⟨rfl, ht, hw⟩)))) hd hc hs hQ
theorem own_ret0W (X : Stand p l e R (s.setVm vm0) m args below meth c T locs cells slots) (hx : p.tables.exec = Jvm.exec) (hlk : meth.locks = false) (hS : s.Since vm0 k0) (hk : k0 ≤ h'.size) (hZ : Z.Warmed39 vm0) (hEL : EW Z a0 EL) (C : CHr Z EL s.vm h vm0 h') (eT : T.heap = h') {pc : Nat} {Ls : Array Slot} (hret : meth.sig.returnType = none)
    (hd : decode c.code pc = .ok (.return_, 1)) (hc : cells ≤ rc) (hs : slots ≤ rs) (hQ : Q none T.heap locs) : own_goW Z EL p e below s h Q rc rs (T.setTop (mkF m pc Ls [])) := by
  obtain ⟨fs, hr, hrun, hended, hW⟩ := X.leaveW hS (by rw [eT]; exact hk) (v := none) (fun _ => rfl) hlk
  have C2 := C.trans (CHv.at X hZ hEL C.1)
  refine ⟨_, _, X.returnOut hx hret hd hr, hrun, hended, _, _, rfl, hQ, ?_, own_endW hW hc hs⟩
  show CHr Z EL s.vm h T.vm T.heap
  rw [eT]; exact C2
/-- a body's contract at a heap, String constants loaded meanwhile allowed -/
def own_MetW (l : Launch) (Z : State) (EL : List (String × Nat)) (y : MethodName) (bytes : ByteArray) (maxL : Nat) (ret : Option FieldType) (ws : List Jvm.Cond) (rm : Room) (as' : Array Value) (h : Heap) (Q : Option Value → Heap → List Loc → Prop) : Prop :=
  MetFree l y (head1 (Jvm.Cond.code y bytes maxL ret :: ws) rm) (fun a U => a = as' ∧ Z.Warmed39 U.vm ∧ U.heap = h ∧ CHv Z EL U.vm h) (fun _ _ _ _ _ => True) (fun _ U o U' => ∃ v L, o = .returned v ∧ Q v U'.heap L ∧ CHr Z EL U.vm U.heap U'.vm U'.heap ∧ ReturnedEndW U o U' L rm.cells rm.slots)
theorem own_bodyW {y : MethodName} {bytes : ByteArray} {maxL : Nat} {ret : Option FieldType} {ws : List Jvm.Cond} {rm : Room} {as' : Array Value} (hp : plainFor y = true)
    (k : ∀ (p : Program) (e : Env) (s : State) (m : MethodId) (below : List Frame) (meth : Method) (c : Code) (s₁ : State), p.tables.exec = Jvm.exec → c.code = bytes → c.maxLocals = maxL → s.vm.findClass y.cls = some m.cls → meth.name = y.name → meth.sig.returnType = ret → meth.locks = false → Stand p l e rm (s.setVm s.vm) m as' below meth c s₁ [] 0 0 → Z.Warmed39 s.vm → s₁.heap = h → CHr Z EL s.vm h s.vm h → s.Since s.vm h.size → own_goW Z EL p e below s h Q rm.cells rm.slots (s₁.setTop (entryFrame m as' maxL))) :
    own_MetW l Z EL y bytes maxL ret ws rm as' h Q := by
  refine MetFree.of_bodySF hp hisR ?_
  intro p e s m args below meth c s₁ Bd hml0 hP hK
  obtain ⟨rfl, hZ, hh, hC⟩ := hP
  subst hh
  exact k p e s m below meth c s₁ Bd.exec Bd.bytes hml0 (findClass_of_methodNamed Bd.named) (name_of_methodNamed Bd.named Bd.method).1 Bd.returns Bd.notSynchronized (Stand.of_body Bd) hZ (by rw [Bd.state]; rfl) (CHr.refl hC) ((State.WarmedH.refl s).since _)
theorem own_callSW (X : Stand p l e R (s.setVm vm0) m args below meth c T locs cells slots) (hx : p.tables.exec = Jvm.exec) (hZ : Z.Warmed39 vm0) (hS : s.Since vm0 k0) (hk : k0 ≤ h.size) (hEL : EW Z a0 EL) (H : CHv Z EL vm0 h) {own : String} {index : Nat} {y : MethodName} {bytes : ByteArray} {maxL : Nat} {ret : Option FieldType} {rm : Room} {argsL rest : List Value} {Q' : Option Value → Heap → List Loc → Prop}
    (hM : own_MetW l Z EL y bytes maxL ret [] rm argsL.toArray h Q') (hown : vm0.findClass own = some m.cls) (w1 : (Jvm.Cond.methodLink own index y).before a0 Z = true) (w2 : (Jvm.Cond.static y).before a0 Z = true) (w3 : (Jvm.Cond.initialized y.cls).before a0 Z = true) (w4 : (Jvm.Cond.code y bytes maxL ret).before a0 Z = true)
    (hy : y.cls ≠ "java/lang/invoke/MethodHandle" ∧ y.cls ≠ "java/lang/invoke/VarHandle") (eT : T.heap = h) {g : JFrame} (hg : g.method = m) (hsize : g.locals.size = c.maxLocals) (hlen : ∀ sig, parseMethodDescriptor y.desc = some sig → argsL.length = sig.parameters.length) (hstack : g.stack = argsL.reverse ++ rest) {W : Nat} (hW : 2 * g.monitorRoom + (rest.map fun v => v.category).sum ≤ W)
    (hd : decode c.code g.pc = .ok (.invokestatic index, 3)) (hf : rm.frames + 1 ≤ R.frames) (hl : W + (maxL + 11) + rm.locals ≤ R.locals) (hc : cells + rm.cells ≤ R.cells) (hs : slots + rm.slots ≤ R.slots) :
    ∃ v T' L, Stand p l e R (s.setVm T'.vm) m args below meth c T' (locs ++ L) (cells + rm.cells) (slots + rm.slots) ∧ s.Since T'.vm T'.heap.size ∧ Z.Warmed39 T'.vm ∧ T'.vm.findClass own = some m.cls ∧ CHr Z EL vm0 h T'.vm T'.heap ∧ Q' v T'.heap L ∧ ∀ target, Steps p.tables e below (T'.setTop { g with pc := g.pc + 3, stack := v.toList ++ rest }) target → Steps p.tables e below (T.setTop g) target := by
  obtain ⟨v, _, ⟨T1, L1, k1, n1⟩, -, X1, hS1, hg1, ⟨Lc, hQ, l1, y1, z1, hC⟩, st⟩ := callSS X hx (y := y) hown (mvT (s := s.setVm vm0) hZ w1) (mvT (s := s.setVm vm0) hZ w2) (mvT (s := s.setVm vm0) hZ w3) (mvT (s := s.setVm vm0) hZ w4) hy (backOfSH (s := s) (W := W) hM hZ w4 w3 hf hl hEL H) hg hsize hlen hstack hW hd (fun _ _ => ⟨rfl, eT, hc, hs⟩)
  dsimp only [Pt.U, Pt.locs, Pt.cells, Pt.slots] at X1 hS1 hg1 l1 y1 z1 st hQ hC
  subst l1 y1 z1
  obtain ⟨X2, hS2, hZ2, ho2⟩ := rebS hS (by rw [eT]; exact hk) X1 hS1 hg1 hZ hown
  exact ⟨v, T1, Lc, X2, hS2, hZ2, ho2, hC, hQ, fun _ k => st.trans k⟩
theorem own_callNW (X : Stand p l e R (s.setVm vm0) m args below meth c T locs cells slots) (hx : p.tables.exec = Jvm.exec) (hZ : Z.Warmed39 vm0) (hS : s.Since vm0 k0) (hk : k0 ≤ h.size) (hEL : EW Z a0 EL) (H : CHv Z EL vm0 h) {own : String} {index : Nat} {y : MethodName} {bytes : ByteArray} {maxL : Nat} {rm : Room} {b : Addr} {argsL rest : List Value} {Q' : Option Value → Heap → List Loc → Prop}
    (hM : own_MetW l Z EL y bytes maxL none [] rm (.ref b :: argsL).toArray h Q') (hi : y.name = "<init>") (hown : vm0.findClass own = some m.cls) (w1 : (Jvm.Cond.methodLink own index y).before a0 Z = true) (w2 : (Jvm.Cond.instanceMethod y).before a0 Z = true)
    (w3 : (Jvm.Cond.initialized y.cls).before a0 Z = true) (w4 : (Jvm.Cond.code y bytes maxL none).before a0 Z = true)
    (hy : y.cls ≠ "java/lang/invoke/MethodHandle" ∧ y.cls ≠ "java/lang/invoke/VarHandle") (eT : T.heap = h) {g : JFrame} (hg : g.method = m) (hsize : g.locals.size = c.maxLocals) (hlen : ∀ sig, parseMethodDescriptor y.desc = some sig → argsL.length = sig.parameters.length) (hstack : g.stack = argsL.reverse ++ .ref b :: rest) {W : Nat} (hW : 2 * g.monitorRoom + (rest.map fun v => v.category).sum ≤ W)
    (hd : decode c.code g.pc = .ok (.invokespecial index, 3)) (hf : rm.frames + 1 ≤ R.frames) (hl : W + (maxL + 11) + rm.locals ≤ R.locals) (hc : cells + rm.cells ≤ R.cells) (hs : slots + rm.slots ≤ R.slots) :
    ∃ v T' L, Stand p l e R (s.setVm T'.vm) m args below meth c T' (locs ++ L) (cells + rm.cells) (slots + rm.slots) ∧ s.Since T'.vm T'.heap.size ∧ Z.Warmed39 T'.vm ∧ T'.vm.findClass own = some m.cls ∧ CHr Z EL vm0 h T'.vm T'.heap ∧ Q' v T'.heap L ∧ ∀ target, Steps p.tables e below (T'.setTop { g with pc := g.pc + 3, stack := v.toList ++ rest }) target → Steps p.tables e below (T.setTop g) target := by
  obtain ⟨v, _, ⟨T1, L1, k1, n1⟩, -, X1, hS1, hg1, ⟨Lc, hQ, l1, y1, z1, hC⟩, st⟩ := X.specialBackS hx (y := y) hi hown (mvT (s := s.setVm vm0) hZ w1) (mvT (s := s.setVm vm0) hZ w2) (mvT (s := s.setVm vm0) hZ w4) hy (backOfSH (s := s) (W := W) hM hZ w4 w3 hf hl hEL H) hg hsize (Steps.refl _) hlen hstack hW hd (fun _ _ => ⟨rfl, eT, hc, hs⟩)
  dsimp only [Pt.U, Pt.locs, Pt.cells, Pt.slots] at X1 hS1 hg1 l1 y1 z1 st hQ hC
  subst l1 y1 z1
  obtain ⟨X2, hS2, hZ2, ho2⟩ := rebS hS (by rw [eT]; exact hk) X1 hS1 hg1 hZ hown
  exact ⟨v, T1, Lc, X2, hS2, hZ2, ho2, hC, hQ, fun _ k => st.trans k⟩
theorem own_safeS {x : Addr} (hal : Z.vm.Alike vm) (E : Exa Z h x "java/lang/String") (F : Fld Z h x "java/lang/String" "value" "[B" .null) : Safe Z EL vm h x := fun B => by
  obtain ⟨p, hp, u, a, hb, q, hqa, G, hy⟩ := B
  obtain ⟨cS, ⟨⟨s1, s2, s3, ⟨cv, kv, iv, s4, s4'⟩, ⟨cc, kc, ic, s5, s5'⟩, s6, s7, s8, s9, s10, -⟩, hfS, hcS⟩, -, hB, -⟩ := G
  rcases hy with rfl | rfl
  · obtain ⟨cell, cf, k, i, f, h1, h2, -, -, -, -, h7⟩ := F
    have s1 : h[q.sa]? = some q.sC := s1
    cases h1.symm.trans s1
    obtain ⟨kz, z4⟩ := ff_back (U := Wst Z vm h) hal s4
    cases h2.symm.trans z4
    cases h7.symm.trans s8
  · obtain ⟨cell, k, h1, h2, -⟩ := E
    have s10 : h[q.sd]? = some q.SA := s10
    cases h1.symm.trans s10
    have hB : vm.findClass "[B" = some q.SA.cls := hB
    rw [hal.findClass] at hB
    obtain ⟨k1, a1, a2⟩ := Vm.findClass_spec h2
    obtain ⟨k2, b1, b2⟩ := Vm.findClass_spec hB
    cases a1.symm.trans b1
    exact absurd (a2.symm.trans b2) (by decide)
theorem own_safeV {x : Addr} {k : ClassId} {ty : FieldType} {z : Int32} {vs : List Value} {dv : Value} (hal : Z.vm.Alike vm) (V : Arv Z h x k ty z vs dv) (ht : ty ≠ .byte) : Safe Z EL vm h x := by
  obtain ⟨cl, A, -⟩ := V
  exact Safe.arr hal A ht
end OwnKitW
theorem own_EW {Z : State} {a0 : Array Value} (hw : ∀ d ∈ tables_1, d.before a0 Z = true) : EW Z a0 consts_1 := EW.cons (hw _ (List.mem_of_getElem? (i := 21) rfl)) (by decide +kernel) (EW.nil)
theorem own_sA {Z : State} {a0 : Array Value} (hw : ∀ d ∈ tables_1, d.before a0 Z = true) : ∀ d ∈ Bundle.stringAtoms, d.before a0 Z = true := fun d hd => hw d ((by decide +kernel : ∀ d ∈ Bundle.stringAtoms, d ∈ tables_1) d hd)
def own_S (Z : State) (c_OUTPUT : Addr) (c_INPUT : Addr) (z_COMPACT_STRINGS : Int32) : Prop := (Sta Z Z.heap "com/example/bridgr/bridgr/spec/Section" "OUTPUT" "Lcom/example/bridgr/bridgr/spec/Section;" (.ref c_OUTPUT)) ∧
  (Exa Z Z.heap c_OUTPUT "com/example/bridgr/bridgr/spec/Section") ∧
  (Sta Z Z.heap "com/example/bridgr/bridgr/spec/Section" "INPUT" "Lcom/example/bridgr/bridgr/spec/Section;" (.ref c_INPUT)) ∧
  (Exa Z Z.heap c_INPUT "com/example/bridgr/bridgr/spec/Section") ∧
  (Fld Z Z.heap c_OUTPUT "java/lang/Enum" "ordinal" "I" (.int (1 : Int32))) ∧
  (Fld Z Z.heap c_INPUT "java/lang/Enum" "ordinal" "I" (.int (0 : Int32))) ∧
  (Sta Z Z.heap "java/lang/String" "COMPACT_STRINGS" "Z" (.int z_COMPACT_STRINGS)) ∧
  (¬ z_COMPACT_STRINGS = (0 : Int32))
theorem own_m3 (k : Int32) : (k &&& (3 : Int32)) = (0 : Int32) ∨ (k &&& (3 : Int32)) = (1 : Int32) ∨ (k &&& (3 : Int32)) = (2 : Int32) ∨ (k &&& (3 : Int32)) = (3 : Int32) := by
  have h1 := c_and k 3 (by decide)
  have h0 : (3 : Int32).toInt = 3 := by decide
  rw [h0] at h1
  have h3 : (k &&& (3 : Int32)).toInt = 0 ∨ (k &&& (3 : Int32)).toInt = 1 ∨ (k &&& (3 : Int32)).toInt = 2 ∨ (k &&& (3 : Int32)).toInt = 3 := by omega
  rcases h3 with q | q | q | q
  · exact Or.inl (Int32.toInt_inj.mp (q.trans rfl))
  · exact Or.inr (Or.inl (Int32.toInt_inj.mp (q.trans rfl)))
  · exact Or.inr (Or.inr (Or.inl (Int32.toInt_inj.mp (q.trans rfl))))
  · exact Or.inr (Or.inr (Or.inr (Int32.toInt_inj.mp (q.trans rfl))))
theorem own_i2c (x : Int32) : (x &&& (255 : Int32)).toUInt32.toUInt16.toUInt32.toInt32 = x &&& 255 := i2c_mask x
theorem d3_0 : decode jdk_42_method_149_code 0 = .ok (.aload_n 0, 1) := by decide +kernel
theorem d3_1 : decode jdk_42_method_149_code 1 = .ok (.invokespecial 1, 3) := by decide +kernel
theorem d3_4 : decode jdk_42_method_149_code 4 = .ok (.iload_n 3, 1) := by decide +kernel
theorem d3_5 : decode jdk_42_method_149_code 5 = .ok (.ifCond .ne 22, 3) := by decide +kernel
theorem d3_8 : decode jdk_42_method_149_code 8 = .ok (.aload_n 0, 1) := by decide +kernel
theorem d3_9 : decode jdk_42_method_149_code 9 = .ok (.ldc 7, 2) := by decide +kernel
theorem d3_11 : decode jdk_42_method_149_code 11 = .ok (.getfield 9, 3) := by decide +kernel
theorem d3_14 : decode jdk_42_method_149_code 14 = .ok (.putfield 9, 3) := by decide +kernel
theorem d3_17 : decode jdk_42_method_149_code 17 = .ok (.aload_n 0, 1) := by decide +kernel
theorem d3_18 : decode jdk_42_method_149_code 18 = .ok (.ldc 7, 2) := by decide +kernel
theorem d3_20 : decode jdk_42_method_149_code 20 = .ok (.getfield 15, 3) := by decide +kernel
theorem d3_23 : decode jdk_42_method_149_code 23 = .ok (.putfield 15, 3) := by decide +kernel
theorem d3_26 : decode jdk_42_method_149_code 26 = .ok (.return_, 1) := by decide +kernel
theorem own_pn_3 : plainFor (⟨"java/lang/String", "<init>", "([CIILjava/lang/Void;)V"⟩ : MethodName) = true := plainFor_of_name (show plainName "java/lang/String" = true by first | (simp [plainName, overriddenIn]; done) | decide +kernel)
theorem own_ef_rm_s4 (m : MethodId) (a1 : Addr) (a2 : Addr) : entryFrame m #[(.ref a1), (.ref a2), (.int (0 : Int32)), (.int (0 : Int32)), .null] 6 = mkF m 0 #[.val (.ref a1), .val (.ref a2), .val (.int (0 : Int32)), .val (.int (0 : Int32)), .val .null, .unset] [] := by first | (simp [entryFrame, mkF, argsToLocals, Value.category]; done) | rfl
set_option maxRecDepth 65536 in
set_option maxHeartbeats 40000000 in
theorem rm_s4 (l : Launch) (Z : State) (a0 : Array Value) (hw : ∀ d ∈ tables_1, d.before a0 Z = true) (a1 a2 : Addr) (h0 : Heap) (n0 : Nat) (O0 : Old Z n0 h0) (ge_a1 : n0 ≤ a1) (E_a1 : Exa Z h0 a1 "java/lang/String") (F_a1_value : Fld Z h0 a1 "java/lang/String" "value" "[B" .null) (F_a1_coder : Fld Z h0 a1 "java/lang/String" "coder" "B" (.int (0 : Int32))) :
    own_MetW l Z consts_1 (⟨"java/lang/String", "<init>", "([CIILjava/lang/Void;)V"⟩ : MethodName) jdk_42_method_149_code 6 none [] ({ frames := 1, cells := 4, slots := 8, locals := 12 } : Room) #[(.ref a1), (.ref a2), (.int (0 : Int32)), (.int (0 : Int32)), .null] h0 (fun v h L => v = none ∧ Fr n0 L ∧ Keep h0 h [a1]) := by
  refine own_bodyW own_pn_3 ?_
  intro p e s m below meth c s₁ hx hby hml hown hnm hret hlk X0 hZ e0 C0 hS0
  have hk0 : h0.size ≤ h0.size := Nat.le_refl _
  have hEL := own_EW hw
  have wS := own_sA hw
  replace hown : s.vm.findClass "java/lang/String" = some m.cls := hown
  have N0 := Fr.nil n0
  have K0 := Keep.refl h0 [a1]
  refine own_stW (fun _ k => castTop (own_ef_rm_s4 m a1 a2) k) ?_
  show own_goW _ _ _ _ _ _ _ _ _ _ (s₁.setTop (mkF m 0 #[.val (.ref a1), .val (.ref a2), .val (.int (0 : Int32)), .val (.int (0 : Int32)), .val .null, .unset] []))
  refine own_stW (fun _ k => XS.aloadN X0.here hx rfl (hb hby d3_0) rfl rfl k) ?_
  show own_goW _ _ _ _ _ _ _ _ _ _ (s₁.setTop (mkF m 1 #[.val (.ref a1), .val (.ref a2), .val (.int (0 : Int32)), .val (.int (0 : Int32)), .val .null, .unset] [(.ref a1)]))
  obtain ⟨T2, X2, e2, st2⟩ := initO X0 hx hZ hown (hw _ (List.mem_of_getElem? (i := 18) rfl)) (hw _ (List.mem_of_getElem? (i := 19) rfl)) (hw _ (List.mem_of_getElem? (i := 20) rfl)) e0 (g := (mkF m 1 #[.val (.ref a1), .val (.ref a2), .val (.int (0 : Int32)), .val (.int (0 : Int32)), .val .null, .unset] [(.ref a1)])) rfl (by rw [hml]; rfl) rfl (hb hby d3_1) (by decide) (W := 0) (by show 2 * 0 + _ ≤ _; exact Nat.le_of_eq rfl) (by decide)
  refine own_stW st2 ?_
  show own_goW _ _ _ _ _ _ _ _ _ _ (T2.setTop (mkF m 4 #[.val (.ref a1), .val (.ref a2), .val (.int (0 : Int32)), .val (.int (0 : Int32)), .val .null, .unset] []))
  refine own_stW (fun _ k => XS.iloadN X2.here hx rfl (hb hby d3_4) rfl k) ?_
  show own_goW _ _ _ _ _ _ _ _ _ _ (T2.setTop (mkF m 5 #[.val (.ref a1), .val (.ref a2), .val (.int (0 : Int32)), .val (.int (0 : Int32)), .val .null, .unset] [(.int (0 : Int32))]))
  refine own_stW (fun _ k => XS.ifNo X2.here hx rfl (hb hby d3_5) rfl (by decide) k) ?_
  show own_goW _ _ _ _ _ _ _ _ _ _ (T2.setTop (mkF m 8 #[.val (.ref a1), .val (.ref a2), .val (.int (0 : Int32)), .val (.int (0 : Int32)), .val .null, .unset] []))
  refine own_stW (fun _ k => XS.aloadN X2.here hx rfl (hb hby d3_8) rfl rfl k) ?_
  show own_goW _ _ _ _ _ _ _ _ _ _ (T2.setTop (mkF m 9 #[.val (.ref a1), .val (.ref a2), .val (.int (0 : Int32)), .val (.int (0 : Int32)), .val .null, .unset] [(.ref a1)]))
  obtain ⟨b3, T3, h3, k3, d3, kd3, X3, e3, E3, hS3, hk3, hZ3, hown3, A3, Cd3, U3, V3, lta3, ltb3, CH3, Li3, sfe3, st3⟩ := ldcCH X2 hx hZ hown (hw _ (List.mem_of_getElem? (i := 21) rfl)) wS e2 hS0 hk0 hEL (by decide) C0.1 (vs := []) (z := (0 : Int32)) ⟨by decide +kernel, by decide +kernel⟩ (by decide) (by decide) (g := (mkF m 9 #[.val (.ref a1), .val (.ref a2), .val (.int (0 : Int32)), .val (.int (0 : Int32)), .val .null, .unset] [(.ref a1)])) rfl (hb hby d3_9) (n := 0) (by decide +kernel) (by decide) (by decide) (by decide)
  have O3 := O0.ext E3
  have K3 := K0.ext E3
  have C3 := C0.trans CH3
  refine own_stW st3 ?_
  show own_goW _ _ _ _ _ _ _ _ _ _ (T3.setTop (mkF m 11 #[.val (.ref a1), .val (.ref a2), .val (.int (0 : Int32)), .val (.int (0 : Int32)), .val .null, .unset] [(.ref b3), (.ref a1)]))
  obtain ⟨T4, X4, e4, st4⟩ := getF X3 hx hZ3 hown3 (host := "") (Or.inl (hw _ (List.mem_of_getElem? (i := 27) rfl))) Via.refl e3 U3 (g := (mkF m 11 #[.val (.ref a1), .val (.ref a2), .val (.int (0 : Int32)), .val (.int (0 : Int32)), .val .null, .unset] [(.ref b3), (.ref a1)])) rfl rfl (hb hby d3_11)
  refine own_stW st4 ?_
  show own_goW _ _ _ _ _ _ _ _ _ _ (T4.setTop (mkF m 14 #[.val (.ref a1), .val (.ref a2), .val (.int (0 : Int32)), .val (.int (0 : Int32)), .val .null, .unset] [(.ref d3), (.ref a1)]))
  have f6 := (F_a1_value.ext E3)
  have f7 := (E_a1.ext E3)
  obtain ⟨T5, h5, X5, e5, W5, st5⟩ := putF X4 hx hZ3 hown3 (host := "") (Or.inl (hw _ (List.mem_of_getElem? (i := 27) rfl))) Via.refl e4 f6 f7 (Or.inr ⟨(hw _ (List.mem_of_getElem? (i := 23) rfl)), rfl, hnm⟩) (hw _ (List.mem_of_getElem? (i := 8) rfl)) (ty := (.array .byte)) (by decide) rfl rfl (g := (mkF m 14 #[.val (.ref a1), .val (.ref a2), .val (.int (0 : Int32)), .val (.int (0 : Int32)), .val .null, .unset] [(.ref d3), (.ref a1)])) rfl rfl (hb hby d3_14)
  have N5 := Fr.snoc X5 N0 ge_a1
  have sf8 : Safe Z consts_1 T3.vm h3 a1 := (own_safeS hZ3.alike f7 f6)
  have Cw8 := C3.trans (CHr.wr W5 sf8 C3.1)
  have hkw8 := Nat.le_trans hk3 (Keep.of_wr W5).1
  have O8 := O3.wr W5 ge_a1
  have K8 := K3.wr W5 (Or.inl (List.mem_of_getElem? (i := 0) rfl))
  have sg8 := Safe.wr W5 sf8 C3.1 sf8
  have F5 := f6.same W5
  refine own_stW st5 ?_
  show own_goW _ _ _ _ _ _ _ _ _ _ (T5.setTop (mkF m 17 #[.val (.ref a1), .val (.ref a2), .val (.int (0 : Int32)), .val (.int (0 : Int32)), .val .null, .unset] []))
  refine own_stW (fun _ k => XS.aloadN X5.here hx rfl (hb hby d3_17) rfl rfl k) ?_
  show own_goW _ _ _ _ _ _ _ _ _ _ (T5.setTop (mkF m 18 #[.val (.ref a1), .val (.ref a2), .val (.int (0 : Int32)), .val (.int (0 : Int32)), .val .null, .unset] [(.ref a1)]))
  have f10 := (f7.wr W5)
  obtain ⟨b9, T9, h9, k9, d9, kd9, X9, e9, E9, hS9, hk9, hZ9, hown9, A9, Cd9, U9, V9, lta9, ltb9, CH9, Li9, sfe9, st9⟩ := ldcCH X5 hx hZ3 hown3 (hw _ (List.mem_of_getElem? (i := 21) rfl)) wS e5 hS3 hkw8 hEL (by decide) Cw8.1 (vs := []) (z := (0 : Int32)) ⟨by decide +kernel, by decide +kernel⟩ (by decide) (by decide) (g := (mkF m 18 #[.val (.ref a1), .val (.ref a2), .val (.int (0 : Int32)), .val (.int (0 : Int32)), .val .null, .unset] [(.ref a1)])) rfl (hb hby d3_18) (n := 0) (by decide +kernel) (by decide) (by decide) (by decide)
  have O9 := O8.ext E9
  have K9 := K8.ext E9
  have C9 := Cw8.trans CH9
  refine own_stW st9 ?_
  show own_goW _ _ _ _ _ _ _ _ _ _ (T9.setTop (mkF m 20 #[.val (.ref a1), .val (.ref a2), .val (.int (0 : Int32)), .val (.int (0 : Int32)), .val .null, .unset] [(.ref b9), (.ref a1)]))
  obtain ⟨T11, X11, e11, st11⟩ := getF X9 hx hZ9 hown9 (host := "") (Or.inl (hw _ (List.mem_of_getElem? (i := 28) rfl))) Via.refl e9 Cd9 (g := (mkF m 20 #[.val (.ref a1), .val (.ref a2), .val (.int (0 : Int32)), .val (.int (0 : Int32)), .val .null, .unset] [(.ref b9), (.ref a1)])) rfl rfl (hb hby d3_20)
  refine own_stW st11 ?_
  show own_goW _ _ _ _ _ _ _ _ _ _ (T11.setTop (mkF m 23 #[.val (.ref a1), .val (.ref a2), .val (.int (0 : Int32)), .val (.int (0 : Int32)), .val .null, .unset] [(.int (0 : Int32)), (.ref a1)]))
  have f13 := (((F_a1_coder.ext E3).other W5 (Or.inr (slot_ne (Or.inr (hw _ (List.mem_of_getElem? (i := 24) rfl))) (Or.inr (hw _ (List.mem_of_getElem? (i := 23) rfl))) (by decide) (t := .byte) (t' := (.array .byte)) (by decide) (by decide)))).ext E9)
  have f14 := (f10.ext E9)
  obtain ⟨T12, h12, X12, e12, W12, st12⟩ := putF X11 hx hZ9 hown9 (host := "") (Or.inl (hw _ (List.mem_of_getElem? (i := 28) rfl))) Via.refl e11 f13 f14 (Or.inr ⟨(hw _ (List.mem_of_getElem? (i := 24) rfl)), rfl, hnm⟩) (hw _ (List.mem_of_getElem? (i := 8) rfl)) (ty := .byte) (by decide) rfl rfl (g := (mkF m 23 #[.val (.ref a1), .val (.ref a2), .val (.int (0 : Int32)), .val (.int (0 : Int32)), .val .null, .unset] [(.int (0 : Int32)), (.ref a1)])) rfl rfl (hb hby d3_23)
  have N12 := Fr.snoc X12 N5 ge_a1
  have f16 := (CH9.safe f10.lt sg8)
  have sf15 : Safe Z consts_1 T9.vm h9 a1 := f16
  have Cw15 := C9.trans (CHr.wr W12 sf15 C9.1)
  have hkw15 := Nat.le_trans hk9 (Keep.of_wr W12).1
  have O15 := O9.wr W12 ge_a1
  have K15 := K9.wr W12 (Or.inl (List.mem_of_getElem? (i := 0) rfl))
  have sg15 := Safe.wr W12 sf15 C9.1 sf15
  have F12 := f13.same W12
  refine own_stW st12 ?_
  show own_goW _ _ _ _ _ _ _ _ _ _ (T12.setTop (mkF m 26 #[.val (.ref a1), .val (.ref a2), .val (.int (0 : Int32)), .val (.int (0 : Int32)), .val .null, .unset] []))
  exact own_ret0W X12 hx hlk hS9 hkw15 hZ9 hEL Cw15 e12 hret (hb hby d3_26) (by decide) (by decide) (by rw [e12]; exact ⟨rfl, N12, K15⟩)
theorem d2_0 : decode jdk_42_method_3_code 0 = .ok (.aload_n 0, 1) := by decide +kernel
theorem d2_1 : decode jdk_42_method_3_code 1 = .ok (.aload_n 1, 1) := by decide +kernel
theorem d2_2 : decode jdk_42_method_3_code 2 = .ok (.iconst 0, 1) := by decide +kernel
theorem d2_3 : decode jdk_42_method_3_code 3 = .ok (.aload_n 1, 1) := by decide +kernel
theorem d2_4 : decode jdk_42_method_3_code 4 = .ok (.arraylength, 1) := by decide +kernel
theorem d2_5 : decode jdk_42_method_3_code 5 = .ok (.aconst_null, 1) := by decide +kernel
theorem d2_6 : decode jdk_42_method_3_code 6 = .ok (.invokespecial 27, 3) := by decide +kernel
theorem d2_9 : decode jdk_42_method_3_code 9 = .ok (.return_, 1) := by decide +kernel
theorem own_pn_2 : plainFor (⟨"java/lang/String", "<init>", "([C)V"⟩ : MethodName) = true := plainFor_of_name (show plainName "java/lang/String" = true by first | (simp [plainName, overriddenIn]; done) | decide +kernel)
theorem own_pd__28_5bCIILjava_2flang_2fVoid_3b_29V : parseMethodDescriptor "([CIILjava/lang/Void;)V" = some ⟨[(.array .char), .int, .int, (.object "java/lang/Void")], none⟩ := by decide +kernel
theorem own_ef_rm_s1 (m : MethodId) (a1 : Addr) (a2 : Addr) : entryFrame m #[(.ref a1), (.ref a2)] 2 = mkF m 0 #[.val (.ref a1), .val (.ref a2)] [] := by first | (simp [entryFrame, mkF, argsToLocals, Value.category]; done) | rfl
set_option maxRecDepth 65536 in
set_option maxHeartbeats 40000000 in
theorem rm_s1 (l : Launch) (Z : State) (a0 : Array Value) (hw : ∀ d ∈ tables_1, d.before a0 Z = true) (a1 a2 : Addr) (k2 : ClassId) (h0 : Heap) (n0 : Nat) (O0 : Old Z n0 h0) (ge_a1 : n0 ≤ a1) (E_a1 : Exa Z h0 a1 "java/lang/String") (F_a1_value : Fld Z h0 a1 "java/lang/String" "value" "[B" .null) (F_a1_coder : Fld Z h0 a1 "java/lang/String" "coder" "B" (.int (0 : Int32))) (V_a2 : Arv Z h0 a2 k2 .char 0 [] (.int (0 : Int32))) :
    own_MetW l Z consts_1 (⟨"java/lang/String", "<init>", "([C)V"⟩ : MethodName) jdk_42_method_3_code 2 none [] ({ frames := 2, cells := 4, slots := 8, locals := 31 } : Room) #[(.ref a1), (.ref a2)] h0 (fun v h L => v = none ∧ Fr n0 L ∧ Keep h0 h [a1]) := by
  refine own_bodyW own_pn_2 ?_
  intro p e s m below meth c s₁ hx hby hml hown hnm hret hlk X0 hZ e0 C0 hS0
  have hk0 : h0.size ≤ h0.size := Nat.le_refl _
  have hEL := own_EW hw
  have wS := own_sA hw
  replace hown : s.vm.findClass "java/lang/String" = some m.cls := hown
  have N0 := Fr.nil n0
  have K0 := Keep.refl h0 [a1]
  refine own_stW (fun _ k => castTop (own_ef_rm_s1 m a1 a2) k) ?_
  show own_goW _ _ _ _ _ _ _ _ _ _ (s₁.setTop (mkF m 0 #[.val (.ref a1), .val (.ref a2)] []))
  refine own_stW (fun _ k => XS.aloadN X0.here hx rfl (hb hby d2_0) rfl rfl k) ?_
  show own_goW _ _ _ _ _ _ _ _ _ _ (s₁.setTop (mkF m 1 #[.val (.ref a1), .val (.ref a2)] [(.ref a1)]))
  refine own_stW (fun _ k => XS.aloadN X0.here hx rfl (hb hby d2_1) rfl rfl k) ?_
  show own_goW _ _ _ _ _ _ _ _ _ _ (s₁.setTop (mkF m 2 #[.val (.ref a1), .val (.ref a2)] [(.ref a2), (.ref a1)]))
  refine own_stW (fun _ k => XS.iconst X0.here hx rfl (hb hby d2_2) k) ?_
  show own_goW _ _ _ _ _ _ _ _ _ _ (s₁.setTop (mkF m 3 #[.val (.ref a1), .val (.ref a2)] [(.int (0 : Int32)), (.ref a2), (.ref a1)]))
  refine own_stW (fun _ k => XS.aloadN X0.here hx rfl (hb hby d2_3) rfl rfl k) ?_
  show own_goW _ _ _ _ _ _ _ _ _ _ (s₁.setTop (mkF m 4 #[.val (.ref a1), .val (.ref a2)] [(.ref a2), (.int (0 : Int32)), (.ref a2), (.ref a1)]))
  refine own_stW (own_len X0 hx hZ e0 V_a2 (g := (mkF m 4 #[.val (.ref a1), .val (.ref a2)] [(.ref a2), (.int (0 : Int32)), (.ref a2), (.ref a1)])) rfl rfl (hb hby d2_4)) ?_
  show own_goW _ _ _ _ _ _ _ _ _ _ (s₁.setTop (mkF m 5 #[.val (.ref a1), .val (.ref a2)] [(.int (0 : Int32)), (.int (0 : Int32)), (.ref a2), (.ref a1)]))
  refine own_stW (fun _ k => XS.aconstNull X0.here hx rfl (hb hby d2_5) k) ?_
  show own_goW _ _ _ _ _ _ _ _ _ _ (s₁.setTop (mkF m 6 #[.val (.ref a1), .val (.ref a2)] [.null, (.int (0 : Int32)), (.int (0 : Int32)), (.ref a2), (.ref a1)]))
  obtain ⟨v17, T17, L17, X17, hS17, hZ17, hown17, CH17, hQ17, st17⟩ := own_callNW X0 hx hZ hS0 hk0 hEL C0.1 (argsL := [(.ref a2), (.int (0 : Int32)), (.int (0 : Int32)), .null]) (rest := []) (rm_s4 l Z a0 hw a1 a2 h0 n0 O0 ge_a1 E_a1 F_a1_value F_a1_coder) rfl hown (hw _ (List.mem_of_getElem? (i := 14) rfl)) (hw _ (List.mem_of_getElem? (i := 15) rfl)) (hw _ (List.mem_of_getElem? (i := 9) rfl)) (hw _ (List.mem_of_getElem? (i := 17) rfl)) (by decide) e0 (g := (mkF m 6 #[.val (.ref a1), .val (.ref a2)] [.null, (.int (0 : Int32)), (.int (0 : Int32)), (.ref a2), (.ref a1)])) rfl (by rw [hml]; rfl) (lenOf own_pd__28_5bCIILjava_2flang_2fVoid_3b_29V rfl) rfl (W := 0) (by show 2 * 0 + _ ≤ _; exact Nat.le_of_eq rfl) (hb hby d2_6) (by decide) (by decide) (by decide) (by decide)
  obtain ⟨rfl, Nq17, Kq17⟩ := hQ17
  have N17 := Fr.app N0 Nq17
  have O17 := O0.keep Kq17 (allS ge_a1 all0)
  have K17 := K0.trans Kq17 (allS (Or.inl (List.mem_of_getElem? (i := 0) rfl)) all0)
  have C17 := C0.trans CH17
  have hk17 := Nat.le_refl T17.heap.size
  refine own_stW st17 ?_
  show own_goW _ _ _ _ _ _ _ _ _ _ (T17.setTop (mkF m 9 #[.val (.ref a1), .val (.ref a2)] []))
  exact own_ret0W X17 hx hlk hS17 hk17 hZ17 hEL C17 rfl hret (hb hby d2_9) (by decide) (by decide) ⟨rfl, N17, K17⟩
theorem d1_0 : decode method_2_code 0 = .ok (.iload_n 1, 1) := by decide +kernel
theorem d1_1 : decode method_2_code 1 = .ok (.sipush 255, 3) := by decide +kernel
theorem d1_4 : decode method_2_code 4 = .ok (.iand, 1) := by decide +kernel
theorem d1_5 : decode method_2_code 5 = .ok (.i2c, 1) := by decide +kernel
theorem d1_6 : decode method_2_code 6 = .ok (.istore_n 3, 1) := by decide +kernel
theorem d1_7 : decode method_2_code 7 = .ok (.iload_n 1, 1) := by decide +kernel
theorem d1_8 : decode method_2_code 8 = .ok (.bipush 8, 2) := by decide +kernel
theorem d1_10 : decode method_2_code 10 = .ok (.iushr, 1) := by decide +kernel
theorem d1_11 : decode method_2_code 11 = .ok (.sipush 255, 3) := by decide +kernel
theorem d1_14 : decode method_2_code 14 = .ok (.iand, 1) := by decide +kernel
theorem d1_15 : decode method_2_code 15 = .ok (.i2c, 1) := by decide +kernel
theorem d1_16 : decode method_2_code 16 = .ok (.istore 4, 2) := by decide +kernel
theorem d1_18 : decode method_2_code 18 = .ok (.iload_n 2, 1) := by decide +kernel
theorem d1_19 : decode method_2_code 19 = .ok (.sipush 255, 3) := by decide +kernel
theorem d1_22 : decode method_2_code 22 = .ok (.iand, 1) := by decide +kernel
theorem d1_23 : decode method_2_code 23 = .ok (.i2c, 1) := by decide +kernel
theorem d1_24 : decode method_2_code 24 = .ok (.istore 5, 2) := by decide +kernel
theorem d1_26 : decode method_2_code 26 = .ok (.iload_n 0, 1) := by decide +kernel
theorem d1_27 : decode method_2_code 27 = .ok (.iconst 3, 1) := by decide +kernel
theorem d1_28 : decode method_2_code 28 = .ok (.iand, 1) := by decide +kernel
theorem d1_29 : decode method_2_code 29 = .ok (.istore 6, 2) := by decide +kernel
theorem d1_31 : decode method_2_code 31 = .ok (.iload 6, 2) := by decide +kernel
theorem d1_33 : decode method_2_code 33 = .ok (.ifCond .ne 14, 3) := by decide +kernel
theorem d1_36 : decode method_2_code 36 = .ok (.new 7, 3) := by decide +kernel
theorem d1_39 : decode method_2_code 39 = .ok (.dup, 1) := by decide +kernel
theorem d1_40 : decode method_2_code 40 = .ok (.iconst 0, 1) := by decide +kernel
theorem d1_41 : decode method_2_code 41 = .ok (.newarray .char, 2) := by decide +kernel
theorem d1_43 : decode method_2_code 43 = .ok (.invokespecial 9, 3) := by decide +kernel
theorem d1_46 : decode method_2_code 46 = .ok (.areturn, 1) := by decide +kernel
theorem d1_47 : decode method_2_code 47 = .ok (.iload 6, 2) := by decide +kernel
theorem d1_49 : decode method_2_code 49 = .ok (.iconst 1, 1) := by decide +kernel
theorem d1_50 : decode method_2_code 50 = .ok (.if_icmp .ne 23, 3) := by decide +kernel
theorem d1_53 : decode method_2_code 53 = .ok (.iconst 1, 1) := by decide +kernel
theorem d1_54 : decode method_2_code 54 = .ok (.newarray .char, 2) := by decide +kernel
theorem d1_56 : decode method_2_code 56 = .ok (.astore 7, 2) := by decide +kernel
theorem d1_58 : decode method_2_code 58 = .ok (.aload 7, 2) := by decide +kernel
theorem d1_60 : decode method_2_code 60 = .ok (.iconst 0, 1) := by decide +kernel
theorem d1_61 : decode method_2_code 61 = .ok (.iload_n 3, 1) := by decide +kernel
theorem d1_62 : decode method_2_code 62 = .ok (.castore, 1) := by decide +kernel
theorem d1_63 : decode method_2_code 63 = .ok (.new 7, 3) := by decide +kernel
theorem d1_66 : decode method_2_code 66 = .ok (.dup, 1) := by decide +kernel
theorem d1_67 : decode method_2_code 67 = .ok (.aload 7, 2) := by decide +kernel
theorem d1_69 : decode method_2_code 69 = .ok (.invokespecial 9, 3) := by decide +kernel
theorem d1_72 : decode method_2_code 72 = .ok (.areturn, 1) := by decide +kernel
theorem d1_73 : decode method_2_code 73 = .ok (.iload 6, 2) := by decide +kernel
theorem d1_75 : decode method_2_code 75 = .ok (.iconst 2, 1) := by decide +kernel
theorem d1_76 : decode method_2_code 76 = .ok (.if_icmp .ne 29, 3) := by decide +kernel
theorem d1_79 : decode method_2_code 79 = .ok (.iconst 2, 1) := by decide +kernel
theorem d1_80 : decode method_2_code 80 = .ok (.newarray .char, 2) := by decide +kernel
theorem d1_82 : decode method_2_code 82 = .ok (.astore 7, 2) := by decide +kernel
theorem d1_84 : decode method_2_code 84 = .ok (.aload 7, 2) := by decide +kernel
theorem d1_86 : decode method_2_code 86 = .ok (.iconst 0, 1) := by decide +kernel
theorem d1_87 : decode method_2_code 87 = .ok (.iload_n 3, 1) := by decide +kernel
theorem d1_88 : decode method_2_code 88 = .ok (.castore, 1) := by decide +kernel
theorem d1_89 : decode method_2_code 89 = .ok (.aload 7, 2) := by decide +kernel
theorem d1_91 : decode method_2_code 91 = .ok (.iconst 1, 1) := by decide +kernel
theorem d1_92 : decode method_2_code 92 = .ok (.iload 4, 2) := by decide +kernel
theorem d1_94 : decode method_2_code 94 = .ok (.castore, 1) := by decide +kernel
theorem d1_95 : decode method_2_code 95 = .ok (.new 7, 3) := by decide +kernel
theorem d1_98 : decode method_2_code 98 = .ok (.dup, 1) := by decide +kernel
theorem d1_99 : decode method_2_code 99 = .ok (.aload 7, 2) := by decide +kernel
theorem d1_101 : decode method_2_code 101 = .ok (.invokespecial 9, 3) := by decide +kernel
theorem d1_104 : decode method_2_code 104 = .ok (.areturn, 1) := by decide +kernel
theorem d1_105 : decode method_2_code 105 = .ok (.iconst 3, 1) := by decide +kernel
theorem d1_106 : decode method_2_code 106 = .ok (.newarray .char, 2) := by decide +kernel
theorem d1_108 : decode method_2_code 108 = .ok (.astore 7, 2) := by decide +kernel
theorem d1_110 : decode method_2_code 110 = .ok (.aload 7, 2) := by decide +kernel
theorem d1_112 : decode method_2_code 112 = .ok (.iconst 0, 1) := by decide +kernel
theorem d1_113 : decode method_2_code 113 = .ok (.iload_n 3, 1) := by decide +kernel
theorem d1_114 : decode method_2_code 114 = .ok (.castore, 1) := by decide +kernel
theorem d1_115 : decode method_2_code 115 = .ok (.aload 7, 2) := by decide +kernel
theorem d1_117 : decode method_2_code 117 = .ok (.iconst 1, 1) := by decide +kernel
theorem d1_118 : decode method_2_code 118 = .ok (.iload 4, 2) := by decide +kernel
theorem d1_120 : decode method_2_code 120 = .ok (.castore, 1) := by decide +kernel
theorem d1_121 : decode method_2_code 121 = .ok (.aload 7, 2) := by decide +kernel
theorem d1_123 : decode method_2_code 123 = .ok (.iconst 2, 1) := by decide +kernel
theorem d1_124 : decode method_2_code 124 = .ok (.iload 5, 2) := by decide +kernel
theorem d1_126 : decode method_2_code 126 = .ok (.castore, 1) := by decide +kernel
theorem d1_127 : decode method_2_code 127 = .ok (.new 7, 3) := by decide +kernel
theorem d1_130 : decode method_2_code 130 = .ok (.dup, 1) := by decide +kernel
theorem d1_131 : decode method_2_code 131 = .ok (.aload 7, 2) := by decide +kernel
theorem d1_133 : decode method_2_code 133 = .ok (.invokespecial 9, 3) := by decide +kernel
theorem d1_136 : decode method_2_code 136 = .ok (.areturn, 1) := by decide +kernel
theorem own_pn_1 : plainFor (⟨"com/example/bridgr/bridgr/spec/VariableIsIntegerPinLaw", "drawName", "(III)Ljava/lang/String;"⟩ : MethodName) = true := plainFor_of_name (show plainName "com/example/bridgr/bridgr/spec/VariableIsIntegerPinLaw" = true by first | (simp [plainName, overriddenIn]; done) | decide +kernel)
theorem own_pd__28_5bC_29V : parseMethodDescriptor "([C)V" = some ⟨[(.array .char)], none⟩ := by decide +kernel
theorem own_ef_rm_dn (m : MethodId) (p1 : Int32) (p2 : Int32) (p3 : Int32) : entryFrame m #[(.int p1), (.int p2), (.int p3)] 8 = mkF m 0 #[.val (.int p1), .val (.int p2), .val (.int p3), .unset, .unset, .unset, .unset, .unset] [] := by first | (simp [entryFrame, mkF, argsToLocals, Value.category]; done) | rfl
set_option maxRecDepth 65536 in
set_option maxHeartbeats 40000000 in
theorem rm_dn (l : Launch) (Z : State) (a0 : Array Value) (hw : ∀ d ∈ tables_1, d.before a0 Z = true) (p1 p2 p3 : Int32) (c_OUTPUT : Addr) (c_INPUT : Addr) (z_COMPACT_STRINGS : Int32) (h0 : Heap) (n0 : Nat) (O0 : Old Z n0 h0) (hS : own_S Z c_OUTPUT c_INPUT z_COMPACT_STRINGS) :
    own_MetW l Z consts_1 (⟨"com/example/bridgr/bridgr/spec/VariableIsIntegerPinLaw", "drawName", "(III)Ljava/lang/String;"⟩ : MethodName) method_2_code 8 (some (.object "java/lang/String")) [] ({ frames := 5, cells := 6, slots := 16, locals := 80 } : Room) #[(.int p1), (.int p2), (.int p3)] h0 (fun v h L => ∃ a, v = some (.ref a) ∧ Fr n0 L ∧ Keep h0 h [] ∧ h0.size ≤ a ∧ Exa Z h a "java/lang/String") := by
  refine own_bodyW own_pn_1 ?_
  intro p e s m below meth c s₁ hx hby hml hown hnm hret hlk X0 hZ e0 C0 hS0
  have hk0 : h0.size ≤ h0.size := Nat.le_refl _
  have hEL := own_EW hw
  have wS := own_sA hw
  replace hown : s.vm.findClass "com/example/bridgr/bridgr/spec/VariableIsIntegerPinLaw" = some m.cls := hown
  have N0 := Fr.nil n0
  have K0 := Keep.refl h0 []
  refine own_stW (fun _ k => castTop (own_ef_rm_dn m p1 p2 p3) k) ?_
  show own_goW _ _ _ _ _ _ _ _ _ _ (s₁.setTop (mkF m 0 #[.val (.int p1), .val (.int p2), .val (.int p3), .unset, .unset, .unset, .unset, .unset] []))
  refine own_stW (fun _ k => XS.iloadN X0.here hx rfl (hb hby d1_0) rfl k) ?_
  show own_goW _ _ _ _ _ _ _ _ _ _ (s₁.setTop (mkF m 1 #[.val (.int p1), .val (.int p2), .val (.int p3), .unset, .unset, .unset, .unset, .unset] [(.int p2)]))
  refine own_stW (fun _ k => XS.sipush X0.here hx rfl (hb hby d1_1) k) ?_
  show own_goW _ _ _ _ _ _ _ _ _ _ (s₁.setTop (mkF m 4 #[.val (.int p1), .val (.int p2), .val (.int p3), .unset, .unset, .unset, .unset, .unset] [(.int (255 : Int32)), (.int p2)]))
  refine own_stW (fun _ k => XS.iand X0.here hx rfl (hb hby d1_4) rfl k) ?_
  show own_goW _ _ _ _ _ _ _ _ _ _ (s₁.setTop (mkF m 5 #[.val (.int p1), .val (.int p2), .val (.int p3), .unset, .unset, .unset, .unset, .unset] [(.int (p2 &&& (255 : Int32)))]))
  refine own_stW (fun _ k => XS.i2c X0.here hx rfl (hb hby d1_5) rfl k) ?_
  show own_goW _ _ _ _ _ _ _ _ _ _ (s₁.setTop (mkF m 6 #[.val (.int p1), .val (.int p2), .val (.int p3), .unset, .unset, .unset, .unset, .unset] [(.int ((p2 &&& (255 : Int32)).toUInt32.toUInt16.toUInt32.toInt32))]))
  rw [own_i2c]
  show own_goW _ _ _ _ _ _ _ _ _ _ (s₁.setTop (mkF m 6 #[.val (.int p1), .val (.int p2), .val (.int p3), .unset, .unset, .unset, .unset, .unset] [(.int (p2 &&& (255 : Int32)))]))
  refine own_stW (fun _ k => XS.istoreN X0.here hx rfl (hb hby d1_6) rfl (l' := #[.val (.int p1), .val (.int p2), .val (.int p3), .val (.int (p2 &&& (255 : Int32))), .unset, .unset, .unset, .unset]) rfl k) ?_
  show own_goW _ _ _ _ _ _ _ _ _ _ (s₁.setTop (mkF m 7 #[.val (.int p1), .val (.int p2), .val (.int p3), .val (.int (p2 &&& (255 : Int32))), .unset, .unset, .unset, .unset] []))
  refine own_stW (fun _ k => XS.iloadN X0.here hx rfl (hb hby d1_7) rfl k) ?_
  show own_goW _ _ _ _ _ _ _ _ _ _ (s₁.setTop (mkF m 8 #[.val (.int p1), .val (.int p2), .val (.int p3), .val (.int (p2 &&& (255 : Int32))), .unset, .unset, .unset, .unset] [(.int p2)]))
  refine own_stW (fun _ k => XS.bipush X0.here hx rfl (hb hby d1_8) k) ?_
  show own_goW _ _ _ _ _ _ _ _ _ _ (s₁.setTop (mkF m 10 #[.val (.int p1), .val (.int p2), .val (.int p3), .val (.int (p2 &&& (255 : Int32))), .unset, .unset, .unset, .unset] [(.int (8 : Int32)), (.int p2)]))
  refine own_stW (fun _ k => XS.iushr X0.here hx rfl (hb hby d1_10) rfl k) ?_
  show own_goW _ _ _ _ _ _ _ _ _ _ (s₁.setTop (mkF m 11 #[.val (.int p1), .val (.int p2), .val (.int p3), .val (.int (p2 &&& (255 : Int32))), .unset, .unset, .unset, .unset] [(.int ((p2.toUInt32 >>> ((8 : Int32) &&& 31).toUInt32).toInt32))]))
  refine own_stW (fun _ k => XS.sipush X0.here hx rfl (hb hby d1_11) k) ?_
  show own_goW _ _ _ _ _ _ _ _ _ _ (s₁.setTop (mkF m 14 #[.val (.int p1), .val (.int p2), .val (.int p3), .val (.int (p2 &&& (255 : Int32))), .unset, .unset, .unset, .unset] [(.int (255 : Int32)), (.int ((p2.toUInt32 >>> ((8 : Int32) &&& 31).toUInt32).toInt32))]))
  refine own_stW (fun _ k => XS.iand X0.here hx rfl (hb hby d1_14) rfl k) ?_
  show own_goW _ _ _ _ _ _ _ _ _ _ (s₁.setTop (mkF m 15 #[.val (.int p1), .val (.int p2), .val (.int p3), .val (.int (p2 &&& (255 : Int32))), .unset, .unset, .unset, .unset] [(.int (((p2.toUInt32 >>> ((8 : Int32) &&& 31).toUInt32).toInt32) &&& (255 : Int32)))]))
  refine own_stW (fun _ k => XS.i2c X0.here hx rfl (hb hby d1_15) rfl k) ?_
  show own_goW _ _ _ _ _ _ _ _ _ _ (s₁.setTop (mkF m 16 #[.val (.int p1), .val (.int p2), .val (.int p3), .val (.int (p2 &&& (255 : Int32))), .unset, .unset, .unset, .unset] [(.int ((((p2.toUInt32 >>> ((8 : Int32) &&& 31).toUInt32).toInt32) &&& (255 : Int32)).toUInt32.toUInt16.toUInt32.toInt32))]))
  rw [own_i2c]
  show own_goW _ _ _ _ _ _ _ _ _ _ (s₁.setTop (mkF m 16 #[.val (.int p1), .val (.int p2), .val (.int p3), .val (.int (p2 &&& (255 : Int32))), .unset, .unset, .unset, .unset] [(.int (((p2.toUInt32 >>> ((8 : Int32) &&& 31).toUInt32).toInt32) &&& (255 : Int32)))]))
  refine own_stW (fun _ k => XS.istore X0.here hx rfl (hb hby d1_16) rfl (l' := #[.val (.int p1), .val (.int p2), .val (.int p3), .val (.int (p2 &&& (255 : Int32))), .val (.int (((p2.toUInt32 >>> ((8 : Int32) &&& 31).toUInt32).toInt32) &&& (255 : Int32))), .unset, .unset, .unset]) rfl k) ?_
  show own_goW _ _ _ _ _ _ _ _ _ _ (s₁.setTop (mkF m 18 #[.val (.int p1), .val (.int p2), .val (.int p3), .val (.int (p2 &&& (255 : Int32))), .val (.int (((p2.toUInt32 >>> ((8 : Int32) &&& 31).toUInt32).toInt32) &&& (255 : Int32))), .unset, .unset, .unset] []))
  refine own_stW (fun _ k => XS.iloadN X0.here hx rfl (hb hby d1_18) rfl k) ?_
  show own_goW _ _ _ _ _ _ _ _ _ _ (s₁.setTop (mkF m 19 #[.val (.int p1), .val (.int p2), .val (.int p3), .val (.int (p2 &&& (255 : Int32))), .val (.int (((p2.toUInt32 >>> ((8 : Int32) &&& 31).toUInt32).toInt32) &&& (255 : Int32))), .unset, .unset, .unset] [(.int p3)]))
  refine own_stW (fun _ k => XS.sipush X0.here hx rfl (hb hby d1_19) k) ?_
  show own_goW _ _ _ _ _ _ _ _ _ _ (s₁.setTop (mkF m 22 #[.val (.int p1), .val (.int p2), .val (.int p3), .val (.int (p2 &&& (255 : Int32))), .val (.int (((p2.toUInt32 >>> ((8 : Int32) &&& 31).toUInt32).toInt32) &&& (255 : Int32))), .unset, .unset, .unset] [(.int (255 : Int32)), (.int p3)]))
  refine own_stW (fun _ k => XS.iand X0.here hx rfl (hb hby d1_22) rfl k) ?_
  show own_goW _ _ _ _ _ _ _ _ _ _ (s₁.setTop (mkF m 23 #[.val (.int p1), .val (.int p2), .val (.int p3), .val (.int (p2 &&& (255 : Int32))), .val (.int (((p2.toUInt32 >>> ((8 : Int32) &&& 31).toUInt32).toInt32) &&& (255 : Int32))), .unset, .unset, .unset] [(.int (p3 &&& (255 : Int32)))]))
  refine own_stW (fun _ k => XS.i2c X0.here hx rfl (hb hby d1_23) rfl k) ?_
  show own_goW _ _ _ _ _ _ _ _ _ _ (s₁.setTop (mkF m 24 #[.val (.int p1), .val (.int p2), .val (.int p3), .val (.int (p2 &&& (255 : Int32))), .val (.int (((p2.toUInt32 >>> ((8 : Int32) &&& 31).toUInt32).toInt32) &&& (255 : Int32))), .unset, .unset, .unset] [(.int ((p3 &&& (255 : Int32)).toUInt32.toUInt16.toUInt32.toInt32))]))
  rw [own_i2c]
  show own_goW _ _ _ _ _ _ _ _ _ _ (s₁.setTop (mkF m 24 #[.val (.int p1), .val (.int p2), .val (.int p3), .val (.int (p2 &&& (255 : Int32))), .val (.int (((p2.toUInt32 >>> ((8 : Int32) &&& 31).toUInt32).toInt32) &&& (255 : Int32))), .unset, .unset, .unset] [(.int (p3 &&& (255 : Int32)))]))
  refine own_stW (fun _ k => XS.istore X0.here hx rfl (hb hby d1_24) rfl (l' := #[.val (.int p1), .val (.int p2), .val (.int p3), .val (.int (p2 &&& (255 : Int32))), .val (.int (((p2.toUInt32 >>> ((8 : Int32) &&& 31).toUInt32).toInt32) &&& (255 : Int32))), .val (.int (p3 &&& (255 : Int32))), .unset, .unset]) rfl k) ?_
  show own_goW _ _ _ _ _ _ _ _ _ _ (s₁.setTop (mkF m 26 #[.val (.int p1), .val (.int p2), .val (.int p3), .val (.int (p2 &&& (255 : Int32))), .val (.int (((p2.toUInt32 >>> ((8 : Int32) &&& 31).toUInt32).toInt32) &&& (255 : Int32))), .val (.int (p3 &&& (255 : Int32))), .unset, .unset] []))
  refine own_stW (fun _ k => XS.iloadN X0.here hx rfl (hb hby d1_26) rfl k) ?_
  show own_goW _ _ _ _ _ _ _ _ _ _ (s₁.setTop (mkF m 27 #[.val (.int p1), .val (.int p2), .val (.int p3), .val (.int (p2 &&& (255 : Int32))), .val (.int (((p2.toUInt32 >>> ((8 : Int32) &&& 31).toUInt32).toInt32) &&& (255 : Int32))), .val (.int (p3 &&& (255 : Int32))), .unset, .unset] [(.int p1)]))
  refine own_stW (fun _ k => XS.iconst X0.here hx rfl (hb hby d1_27) k) ?_
  show own_goW _ _ _ _ _ _ _ _ _ _ (s₁.setTop (mkF m 28 #[.val (.int p1), .val (.int p2), .val (.int p3), .val (.int (p2 &&& (255 : Int32))), .val (.int (((p2.toUInt32 >>> ((8 : Int32) &&& 31).toUInt32).toInt32) &&& (255 : Int32))), .val (.int (p3 &&& (255 : Int32))), .unset, .unset] [(.int (3 : Int32)), (.int p1)]))
  refine own_stW (fun _ k => XS.iand X0.here hx rfl (hb hby d1_28) rfl k) ?_
  show own_goW _ _ _ _ _ _ _ _ _ _ (s₁.setTop (mkF m 29 #[.val (.int p1), .val (.int p2), .val (.int p3), .val (.int (p2 &&& (255 : Int32))), .val (.int (((p2.toUInt32 >>> ((8 : Int32) &&& 31).toUInt32).toInt32) &&& (255 : Int32))), .val (.int (p3 &&& (255 : Int32))), .unset, .unset] [(.int (p1 &&& (3 : Int32)))]))
  rcases own_m3 p1 with q | q | q | q
  · skip
    rw [q]
    show own_goW _ _ _ _ _ _ _ _ _ _ (s₁.setTop (mkF m 29 #[.val (.int p1), .val (.int p2), .val (.int p3), .val (.int (p2 &&& (255 : Int32))), .val (.int (((p2.toUInt32 >>> ((8 : Int32) &&& 31).toUInt32).toInt32) &&& (255 : Int32))), .val (.int (p3 &&& (255 : Int32))), .unset, .unset] [(.int (0 : Int32))]))
    refine own_stW (fun _ k => XS.istore X0.here hx rfl (hb hby d1_29) rfl (l' := #[.val (.int p1), .val (.int p2), .val (.int p3), .val (.int (p2 &&& (255 : Int32))), .val (.int (((p2.toUInt32 >>> ((8 : Int32) &&& 31).toUInt32).toInt32) &&& (255 : Int32))), .val (.int (p3 &&& (255 : Int32))), .val (.int (0 : Int32)), .unset]) rfl k) ?_
    show own_goW _ _ _ _ _ _ _ _ _ _ (s₁.setTop (mkF m 31 #[.val (.int p1), .val (.int p2), .val (.int p3), .val (.int (p2 &&& (255 : Int32))), .val (.int (((p2.toUInt32 >>> ((8 : Int32) &&& 31).toUInt32).toInt32) &&& (255 : Int32))), .val (.int (p3 &&& (255 : Int32))), .val (.int (0 : Int32)), .unset] []))
    refine own_stW (fun _ k => XS.iload X0.here hx rfl (hb hby d1_31) rfl k) ?_
    show own_goW _ _ _ _ _ _ _ _ _ _ (s₁.setTop (mkF m 33 #[.val (.int p1), .val (.int p2), .val (.int p3), .val (.int (p2 &&& (255 : Int32))), .val (.int (((p2.toUInt32 >>> ((8 : Int32) &&& 31).toUInt32).toInt32) &&& (255 : Int32))), .val (.int (p3 &&& (255 : Int32))), .val (.int (0 : Int32)), .unset] [(.int (0 : Int32))]))
    refine own_stW (fun _ k => XS.ifNo X0.here hx rfl (hb hby d1_33) rfl (by decide) k) ?_
    show own_goW _ _ _ _ _ _ _ _ _ _ (s₁.setTop (mkF m 36 #[.val (.int p1), .val (.int p2), .val (.int p3), .val (.int (p2 &&& (255 : Int32))), .val (.int (((p2.toUInt32 >>> ((8 : Int32) &&& 31).toUInt32).toInt32) &&& (255 : Int32))), .val (.int (p3 &&& (255 : Int32))), .val (.int (0 : Int32)), .unset] []))
    obtain ⟨T18, h18, X18, e18, E18, A18, D18, -, st18⟩ := newO X0 hx hZ hown (hw _ (List.mem_of_getElem? (i := 7) rfl)) (hw _ (List.mem_of_getElem? (i := 8) rfl)) (hw _ (List.mem_of_getElem? (i := 9) rfl)) e0 (g := (mkF m 36 #[.val (.int p1), .val (.int p2), .val (.int p3), .val (.int (p2 &&& (255 : Int32))), .val (.int (((p2.toUInt32 >>> ((8 : Int32) &&& 31).toUInt32).toInt32) &&& (255 : Int32))), .val (.int (p3 &&& (255 : Int32))), .val (.int (0 : Int32)), .unset] [])) rfl (hb hby d1_36) (by decide) (by decide)
    obtain ⟨b18, g18⟩ : ∃ z, z = h0.size := ⟨_, rfl⟩
    rw [← g18] at A18 D18 st18
    have ge_b18 : n0 ≤ b18 := by rw [g18]; exact own_osz O0
    have sz_b18 : h0.size ≤ b18 := by rw [g18]; exact K0.1
    have O18 := O0.ext E18
    have K18 := K0.ext E18
    have Ce18 := C0.trans (CHr.ext E18 C0.1)
    have hke18 := Nat.le_trans hk0 E18.1
    refine own_stW st18 ?_
    show own_goW _ _ _ _ _ _ _ _ _ _ (T18.setTop (mkF m 39 #[.val (.int p1), .val (.int p2), .val (.int p3), .val (.int (p2 &&& (255 : Int32))), .val (.int (((p2.toUInt32 >>> ((8 : Int32) &&& 31).toUInt32).toInt32) &&& (255 : Int32))), .val (.int (p3 &&& (255 : Int32))), .val (.int (0 : Int32)), .unset] [(.ref b18)]))
    refine own_stW (fun _ k => XS.dup X18.here hx rfl (hb hby d1_39) rfl rfl k) ?_
    show own_goW _ _ _ _ _ _ _ _ _ _ (T18.setTop (mkF m 40 #[.val (.int p1), .val (.int p2), .val (.int p3), .val (.int (p2 &&& (255 : Int32))), .val (.int (((p2.toUInt32 >>> ((8 : Int32) &&& 31).toUInt32).toInt32) &&& (255 : Int32))), .val (.int (p3 &&& (255 : Int32))), .val (.int (0 : Int32)), .unset] [(.ref b18), (.ref b18)]))
    refine own_stW (fun _ k => XS.iconst X18.here hx rfl (hb hby d1_40) k) ?_
    show own_goW _ _ _ _ _ _ _ _ _ _ (T18.setTop (mkF m 41 #[.val (.int p1), .val (.int p2), .val (.int p3), .val (.int (p2 &&& (255 : Int32))), .val (.int (((p2.toUInt32 >>> ((8 : Int32) &&& 31).toUInt32).toInt32) &&& (255 : Int32))), .val (.int (p3 &&& (255 : Int32))), .val (.int (0 : Int32)), .unset] [(.int (0 : Int32)), (.ref b18), (.ref b18)]))
    obtain ⟨T19, h19, k19, b19, X19, e19, g19, E19, V19, st19⟩ := own_newP X18 hx hZ (aty := .char) (hw _ (List.mem_of_getElem? (i := 10) rfl)) e18 (g := (mkF m 41 #[.val (.int p1), .val (.int p2), .val (.int p3), .val (.int (p2 &&& (255 : Int32))), .val (.int (((p2.toUInt32 >>> ((8 : Int32) &&& 31).toUInt32).toInt32) &&& (255 : Int32))), .val (.int (p3 &&& (255 : Int32))), .val (.int (0 : Int32)), .unset] [(.int (0 : Int32)), (.ref b18), (.ref b18)])) rfl (hb hby d1_41) rfl (by decide) (cap := 0) (by decide) (by decide) (by decide) (by decide)
    replace V19 : Arv Z h19 b19 k19 .char (0 : Int32) [] (.int (0 : Int32)) := V19
    have ge_b19 : n0 ≤ b19 := by rw [g19]; exact own_osz O18
    have sz_b19 : h0.size ≤ b19 := by rw [g19]; exact K18.1
    have ne_b18_b19 : b18 ≠ b19 := (fun q => absurd A18.lt (by rw [q, g19]; exact Nat.lt_irrefl _))
    have O19 := O18.ext E19
    have K19 := K18.ext E19
    have Ce19 := Ce18.trans (CHr.ext E19 Ce18.1)
    have hke19 := Nat.le_trans hke18 E19.1
    refine own_stW st19 ?_
    show own_goW _ _ _ _ _ _ _ _ _ _ (T19.setTop (mkF m 43 #[.val (.int p1), .val (.int p2), .val (.int p3), .val (.int (p2 &&& (255 : Int32))), .val (.int (((p2.toUInt32 >>> ((8 : Int32) &&& 31).toUInt32).toInt32) &&& (255 : Int32))), .val (.int (p3 &&& (255 : Int32))), .val (.int (0 : Int32)), .unset] [(.ref b19), (.ref b18), (.ref b18)]))
    have f21 := (A18.ext E19)
    have f22 := ((D18 (Or.inr (hw _ (List.mem_of_getElem? (i := 23) rfl))) (ty := (.array .byte)) (by decide)).ext E19)
    have f23 := ((D18 (Or.inr (hw _ (List.mem_of_getElem? (i := 24) rfl))) (ty := .byte) (by decide)).ext E19)
    obtain ⟨v20, T20, L20, X20, hS20, hZ20, hown20, CH20, hQ20, st20⟩ := own_callNW X19 hx hZ hS0 hke19 hEL Ce19.1 (argsL := [(.ref b19)]) (rest := [(.ref b18)]) (rm_s1 l Z a0 hw b18 b19 k19 h19 n0 O19 ge_b18 f21 f22 f23 V19) rfl hown (hw _ (List.mem_of_getElem? (i := 11) rfl)) (hw _ (List.mem_of_getElem? (i := 12) rfl)) (hw _ (List.mem_of_getElem? (i := 9) rfl)) (hw _ (List.mem_of_getElem? (i := 13) rfl)) (by decide) e19 (g := (mkF m 43 #[.val (.int p1), .val (.int p2), .val (.int p3), .val (.int (p2 &&& (255 : Int32))), .val (.int (((p2.toUInt32 >>> ((8 : Int32) &&& 31).toUInt32).toInt32) &&& (255 : Int32))), .val (.int (p3 &&& (255 : Int32))), .val (.int (0 : Int32)), .unset] [(.ref b19), (.ref b18), (.ref b18)])) rfl (by rw [hml]; rfl) (lenOf own_pd__28_5bC_29V rfl) rfl (W := 1) (by show 2 * 0 + _ ≤ _; exact Nat.le_of_eq rfl) (hb hby d1_43) (by decide) (by decide) (by decide) (by decide)
    obtain ⟨rfl, Nq20, Kq20⟩ := hQ20
    have N20 := Fr.app N0 Nq20
    have O20 := O19.keep Kq20 (allS ge_b18 all0)
    have K20 := K19.trans Kq20 (allS (Or.inr sz_b18) all0)
    have C20 := Ce19.trans CH20
    have hk20 := Nat.le_refl T20.heap.size
    refine own_stW st20 ?_
    show own_goW _ _ _ _ _ _ _ _ _ _ (T20.setTop (mkF m 46 #[.val (.int p1), .val (.int p2), .val (.int p3), .val (.int (p2 &&& (255 : Int32))), .val (.int (((p2.toUInt32 >>> ((8 : Int32) &&& 31).toUInt32).toInt32) &&& (255 : Int32))), .val (.int (p3 &&& (255 : Int32))), .val (.int (0 : Int32)), .unset] [(.ref b18)]))
    have f24 := (f21.keep Kq20)
    exact own_retAW X20 hx hlk hS20 hk20 hZ20 hEL C20 rfl hret rfl rfl (hb hby d1_46) (by decide) (by decide) ⟨_, rfl, N20, K20, sz_b18, f24⟩
  · skip
    rw [q]
    show own_goW _ _ _ _ _ _ _ _ _ _ (s₁.setTop (mkF m 29 #[.val (.int p1), .val (.int p2), .val (.int p3), .val (.int (p2 &&& (255 : Int32))), .val (.int (((p2.toUInt32 >>> ((8 : Int32) &&& 31).toUInt32).toInt32) &&& (255 : Int32))), .val (.int (p3 &&& (255 : Int32))), .unset, .unset] [(.int (1 : Int32))]))
    refine own_stW (fun _ k => XS.istore X0.here hx rfl (hb hby d1_29) rfl (l' := #[.val (.int p1), .val (.int p2), .val (.int p3), .val (.int (p2 &&& (255 : Int32))), .val (.int (((p2.toUInt32 >>> ((8 : Int32) &&& 31).toUInt32).toInt32) &&& (255 : Int32))), .val (.int (p3 &&& (255 : Int32))), .val (.int (1 : Int32)), .unset]) rfl k) ?_
    show own_goW _ _ _ _ _ _ _ _ _ _ (s₁.setTop (mkF m 31 #[.val (.int p1), .val (.int p2), .val (.int p3), .val (.int (p2 &&& (255 : Int32))), .val (.int (((p2.toUInt32 >>> ((8 : Int32) &&& 31).toUInt32).toInt32) &&& (255 : Int32))), .val (.int (p3 &&& (255 : Int32))), .val (.int (1 : Int32)), .unset] []))
    refine own_stW (fun _ k => XS.iload X0.here hx rfl (hb hby d1_31) rfl k) ?_
    show own_goW _ _ _ _ _ _ _ _ _ _ (s₁.setTop (mkF m 33 #[.val (.int p1), .val (.int p2), .val (.int p3), .val (.int (p2 &&& (255 : Int32))), .val (.int (((p2.toUInt32 >>> ((8 : Int32) &&& 31).toUInt32).toInt32) &&& (255 : Int32))), .val (.int (p3 &&& (255 : Int32))), .val (.int (1 : Int32)), .unset] [(.int (1 : Int32))]))
    refine own_stW (fun _ k => XS.ifYes X0.here hx rfl (pc0 := 33) (pc' := 47) rfl (hb hby d1_33) rfl (by decide) (by decide) (by decide) k) ?_
    show own_goW _ _ _ _ _ _ _ _ _ _ (s₁.setTop (mkF m 47 #[.val (.int p1), .val (.int p2), .val (.int p3), .val (.int (p2 &&& (255 : Int32))), .val (.int (((p2.toUInt32 >>> ((8 : Int32) &&& 31).toUInt32).toInt32) &&& (255 : Int32))), .val (.int (p3 &&& (255 : Int32))), .val (.int (1 : Int32)), .unset] []))
    refine own_stW (fun _ k => XS.iload X0.here hx rfl (hb hby d1_47) rfl k) ?_
    show own_goW _ _ _ _ _ _ _ _ _ _ (s₁.setTop (mkF m 49 #[.val (.int p1), .val (.int p2), .val (.int p3), .val (.int (p2 &&& (255 : Int32))), .val (.int (((p2.toUInt32 >>> ((8 : Int32) &&& 31).toUInt32).toInt32) &&& (255 : Int32))), .val (.int (p3 &&& (255 : Int32))), .val (.int (1 : Int32)), .unset] [(.int (1 : Int32))]))
    refine own_stW (fun _ k => XS.iconst X0.here hx rfl (hb hby d1_49) k) ?_
    show own_goW _ _ _ _ _ _ _ _ _ _ (s₁.setTop (mkF m 50 #[.val (.int p1), .val (.int p2), .val (.int p3), .val (.int (p2 &&& (255 : Int32))), .val (.int (((p2.toUInt32 >>> ((8 : Int32) &&& 31).toUInt32).toInt32) &&& (255 : Int32))), .val (.int (p3 &&& (255 : Int32))), .val (.int (1 : Int32)), .unset] [(.int (1 : Int32)), (.int (1 : Int32))]))
    refine own_stW (fun _ k => XS.icmpNo X0.here hx rfl (hb hby d1_50) rfl (by decide) k) ?_
    show own_goW _ _ _ _ _ _ _ _ _ _ (s₁.setTop (mkF m 53 #[.val (.int p1), .val (.int p2), .val (.int p3), .val (.int (p2 &&& (255 : Int32))), .val (.int (((p2.toUInt32 >>> ((8 : Int32) &&& 31).toUInt32).toInt32) &&& (255 : Int32))), .val (.int (p3 &&& (255 : Int32))), .val (.int (1 : Int32)), .unset] []))
    refine own_stW (fun _ k => XS.iconst X0.here hx rfl (hb hby d1_53) k) ?_
    show own_goW _ _ _ _ _ _ _ _ _ _ (s₁.setTop (mkF m 54 #[.val (.int p1), .val (.int p2), .val (.int p3), .val (.int (p2 &&& (255 : Int32))), .val (.int (((p2.toUInt32 >>> ((8 : Int32) &&& 31).toUInt32).toInt32) &&& (255 : Int32))), .val (.int (p3 &&& (255 : Int32))), .val (.int (1 : Int32)), .unset] [(.int (1 : Int32))]))
    obtain ⟨T25, h25, k25, b25, X25, e25, g25, E25, V25, st25⟩ := own_newP X0 hx hZ (aty := .char) (hw _ (List.mem_of_getElem? (i := 10) rfl)) e0 (g := (mkF m 54 #[.val (.int p1), .val (.int p2), .val (.int p3), .val (.int (p2 &&& (255 : Int32))), .val (.int (((p2.toUInt32 >>> ((8 : Int32) &&& 31).toUInt32).toInt32) &&& (255 : Int32))), .val (.int (p3 &&& (255 : Int32))), .val (.int (1 : Int32)), .unset] [(.int (1 : Int32))])) rfl (hb hby d1_54) rfl (by decide) (cap := 1) (by decide) (by decide) (by decide) (by decide)
    replace V25 : Arv Z h25 b25 k25 .char (1 : Int32) [(.int (0 : Int32))] (.int (0 : Int32)) := V25
    have ge_b25 : n0 ≤ b25 := by rw [g25]; exact own_osz O0
    have sz_b25 : h0.size ≤ b25 := by rw [g25]; exact K0.1
    have O25 := O0.ext E25
    have K25 := K0.ext E25
    have Ce25 := C0.trans (CHr.ext E25 C0.1)
    have hke25 := Nat.le_trans hk0 E25.1
    refine own_stW st25 ?_
    show own_goW _ _ _ _ _ _ _ _ _ _ (T25.setTop (mkF m 56 #[.val (.int p1), .val (.int p2), .val (.int p3), .val (.int (p2 &&& (255 : Int32))), .val (.int (((p2.toUInt32 >>> ((8 : Int32) &&& 31).toUInt32).toInt32) &&& (255 : Int32))), .val (.int (p3 &&& (255 : Int32))), .val (.int (1 : Int32)), .unset] [(.ref b25)]))
    refine own_stW (fun _ k => XS.astore X25.here hx rfl (hb hby d1_56) rfl rfl (l' := #[.val (.int p1), .val (.int p2), .val (.int p3), .val (.int (p2 &&& (255 : Int32))), .val (.int (((p2.toUInt32 >>> ((8 : Int32) &&& 31).toUInt32).toInt32) &&& (255 : Int32))), .val (.int (p3 &&& (255 : Int32))), .val (.int (1 : Int32)), .val (.ref b25)]) rfl k) ?_
    show own_goW _ _ _ _ _ _ _ _ _ _ (T25.setTop (mkF m 58 #[.val (.int p1), .val (.int p2), .val (.int p3), .val (.int (p2 &&& (255 : Int32))), .val (.int (((p2.toUInt32 >>> ((8 : Int32) &&& 31).toUInt32).toInt32) &&& (255 : Int32))), .val (.int (p3 &&& (255 : Int32))), .val (.int (1 : Int32)), .val (.ref b25)] []))
    refine own_stW (fun _ k => XS.aload X25.here hx rfl (hb hby d1_58) rfl rfl k) ?_
    show own_goW _ _ _ _ _ _ _ _ _ _ (T25.setTop (mkF m 60 #[.val (.int p1), .val (.int p2), .val (.int p3), .val (.int (p2 &&& (255 : Int32))), .val (.int (((p2.toUInt32 >>> ((8 : Int32) &&& 31).toUInt32).toInt32) &&& (255 : Int32))), .val (.int (p3 &&& (255 : Int32))), .val (.int (1 : Int32)), .val (.ref b25)] [(.ref b25)]))
    refine own_stW (fun _ k => XS.iconst X25.here hx rfl (hb hby d1_60) k) ?_
    show own_goW _ _ _ _ _ _ _ _ _ _ (T25.setTop (mkF m 61 #[.val (.int p1), .val (.int p2), .val (.int p3), .val (.int (p2 &&& (255 : Int32))), .val (.int (((p2.toUInt32 >>> ((8 : Int32) &&& 31).toUInt32).toInt32) &&& (255 : Int32))), .val (.int (p3 &&& (255 : Int32))), .val (.int (1 : Int32)), .val (.ref b25)] [(.int (0 : Int32)), (.ref b25)]))
    refine own_stW (fun _ k => XS.iloadN X25.here hx rfl (hb hby d1_61) rfl k) ?_
    show own_goW _ _ _ _ _ _ _ _ _ _ (T25.setTop (mkF m 62 #[.val (.int p1), .val (.int p2), .val (.int p3), .val (.int (p2 &&& (255 : Int32))), .val (.int (((p2.toUInt32 >>> ((8 : Int32) &&& 31).toUInt32).toInt32) &&& (255 : Int32))), .val (.int (p3 &&& (255 : Int32))), .val (.int (1 : Int32)), .val (.ref b25)] [(.int (p2 &&& (255 : Int32))), (.int (0 : Int32)), (.ref b25)]))
    obtain ⟨T26, h26, X26, e26, W26, V26, st26⟩ := own_putC X25 hx hZ e25 V25 (y := (p2 &&& (255 : Int32))) (i2c_mask _) (j := (0 : Int32)) (by decide) 0 (by decide) (by show 0 < 1; decide) (g := (mkF m 62 #[.val (.int p1), .val (.int p2), .val (.int p3), .val (.int (p2 &&& (255 : Int32))), .val (.int (((p2.toUInt32 >>> ((8 : Int32) &&& 31).toUInt32).toInt32) &&& (255 : Int32))), .val (.int (p3 &&& (255 : Int32))), .val (.int (1 : Int32)), .val (.ref b25)] [(.int (p2 &&& (255 : Int32))), (.int (0 : Int32)), (.ref b25)])) rfl rfl (hb hby d1_62)
    have N26 := Fr.snoc X26 N0 ge_b25
    replace V26 : Arv Z h26 b25 k25 .char (1 : Int32) [(.int (p2 &&& (255 : Int32)))] (.int (0 : Int32)) := V26
    have sf27 : Safe Z consts_1 s.vm h25 b25 := (own_safeV hZ.alike V25 (by decide))
    have Cw27 := Ce25.trans (CHr.wr W26 sf27 Ce25.1)
    have hkw27 := Nat.le_trans hke25 (Keep.of_wr W26).1
    have O27 := O25.wr W26 ge_b25
    have K27 := K25.wr W26 (Or.inr sz_b25)
    refine own_stW st26 ?_
    show own_goW _ _ _ _ _ _ _ _ _ _ (T26.setTop (mkF m 63 #[.val (.int p1), .val (.int p2), .val (.int p3), .val (.int (p2 &&& (255 : Int32))), .val (.int (((p2.toUInt32 >>> ((8 : Int32) &&& 31).toUInt32).toInt32) &&& (255 : Int32))), .val (.int (p3 &&& (255 : Int32))), .val (.int (1 : Int32)), .val (.ref b25)] []))
    obtain ⟨T28, h28, X28, e28, E28, A28, D28, -, st28⟩ := newO X26 hx hZ hown (hw _ (List.mem_of_getElem? (i := 7) rfl)) (hw _ (List.mem_of_getElem? (i := 8) rfl)) (hw _ (List.mem_of_getElem? (i := 9) rfl)) e26 (g := (mkF m 63 #[.val (.int p1), .val (.int p2), .val (.int p3), .val (.int (p2 &&& (255 : Int32))), .val (.int (((p2.toUInt32 >>> ((8 : Int32) &&& 31).toUInt32).toInt32) &&& (255 : Int32))), .val (.int (p3 &&& (255 : Int32))), .val (.int (1 : Int32)), .val (.ref b25)] [])) rfl (hb hby d1_63) (by decide) (by decide)
    obtain ⟨b28, g28⟩ : ∃ z, z = h26.size := ⟨_, rfl⟩
    rw [← g28] at A28 D28 st28
    have ge_b28 : n0 ≤ b28 := by rw [g28]; exact own_osz O27
    have sz_b28 : h0.size ≤ b28 := by rw [g28]; exact K27.1
    have ne_b25_b28 : b25 ≠ b28 := (fun q => absurd V26.lt (by rw [q, g28]; exact Nat.lt_irrefl _))
    have O28 := O27.ext E28
    have K28 := K27.ext E28
    have Ce28 := Cw27.trans (CHr.ext E28 Cw27.1)
    have hke28 := Nat.le_trans hkw27 E28.1
    refine own_stW st28 ?_
    show own_goW _ _ _ _ _ _ _ _ _ _ (T28.setTop (mkF m 66 #[.val (.int p1), .val (.int p2), .val (.int p3), .val (.int (p2 &&& (255 : Int32))), .val (.int (((p2.toUInt32 >>> ((8 : Int32) &&& 31).toUInt32).toInt32) &&& (255 : Int32))), .val (.int (p3 &&& (255 : Int32))), .val (.int (1 : Int32)), .val (.ref b25)] [(.ref b28)]))
    refine own_stW (fun _ k => XS.dup X28.here hx rfl (hb hby d1_66) rfl rfl k) ?_
    show own_goW _ _ _ _ _ _ _ _ _ _ (T28.setTop (mkF m 67 #[.val (.int p1), .val (.int p2), .val (.int p3), .val (.int (p2 &&& (255 : Int32))), .val (.int (((p2.toUInt32 >>> ((8 : Int32) &&& 31).toUInt32).toInt32) &&& (255 : Int32))), .val (.int (p3 &&& (255 : Int32))), .val (.int (1 : Int32)), .val (.ref b25)] [(.ref b28), (.ref b28)]))
    refine own_stW (fun _ k => XS.aload X28.here hx rfl (hb hby d1_67) rfl rfl k) ?_
    show own_goW _ _ _ _ _ _ _ _ _ _ (T28.setTop (mkF m 69 #[.val (.int p1), .val (.int p2), .val (.int p3), .val (.int (p2 &&& (255 : Int32))), .val (.int (((p2.toUInt32 >>> ((8 : Int32) &&& 31).toUInt32).toInt32) &&& (255 : Int32))), .val (.int (p3 &&& (255 : Int32))), .val (.int (1 : Int32)), .val (.ref b25)] [(.ref b25), (.ref b28), (.ref b28)]))
    have hws29 : ∀ d ∈ StrChars.Road.words, d.before a0 Z = true := fun d hd => hw d ((by decide +kernel : ∀ d ∈ StrChars.Road.words, d ∈ tables_1) d hd)
    have hlat29 : ∀ c ∈ [(p2 &&& (255 : Int32))], ¬ c < 0 ∧ ¬ (255 : Int32) < c := by
      intro c hc
      simp only [List.mem_cons, List.not_mem_nil, or_false] at hc
      subst hc
      · exact own_p255 _
    have f30 := (V26.ext E28)
    obtain ⟨v29, _, ⟨T29, L29, k29, n29⟩, -, X29, ⟨Lc29, hQ29, l29, y29, z29⟩, st29⟩ := X28.specialBack hx (y := (⟨"java/lang/String", "<init>", "([C)V"⟩ : MethodName)) rfl hown (mvT hZ (hw _ (List.mem_of_getElem? (i := 11) rfl))) (mvT hZ (hw _ (List.mem_of_getElem? (i := 12) rfl))) (mvT hZ (hw _ (List.mem_of_getElem? (i := 13) rfl))) (by decide) (StrChars.Road.backV (W := 1) hZ hws29 (kI := 4) (hw _ (List.mem_of_getElem? (i := 8) rfl)) (cs := [(p2 &&& (255 : Int32))]) (bs := [((p2 &&& (255 : Int32))).toInt8.toInt32]) (n := 1) ge_b28 (own_osz O28) A28 (D28 (Or.inr (hw _ (List.mem_of_getElem? (i := 23) rfl))) (ty := (.array .byte)) (by decide)) (D28 (Or.inr (hw _ (List.mem_of_getElem? (i := 24) rfl))) (ty := .byte) (by decide)) f30 (hS.2.2.2.2.2.2.1.ext O28.2) hS.2.2.2.2.2.2.2 rfl rfl (by decide) (by decide) hlat29 rfl (by decide) (by decide)) (g := (mkF m 69 #[.val (.int p1), .val (.int p2), .val (.int p3), .val (.int (p2 &&& (255 : Int32))), .val (.int (((p2.toUInt32 >>> ((8 : Int32) &&& 31).toUInt32).toInt32) &&& (255 : Int32))), .val (.int (p3 &&& (255 : Int32))), .val (.int (1 : Int32)), .val (.ref b25)] [(.ref b25), (.ref b28), (.ref b28)])) rfl (by rw [hml]; rfl) (Steps.refl _) (a := b28) (argsL := [(.ref b25)]) (rest := [(.ref b28)]) (lenOf own_pd__28_5bC_29V rfl) rfl (by show 2 * 0 + _ ≤ _; exact Nat.le_of_eq rfl) (hb hby d1_69) (fun _ _ => ⟨rfl, e28, (by decide : 2 + 1 ≤ _), (by decide : 5 + 1 ≤ _)⟩)
    dsimp only [Pt.U, Pt.locs, Pt.cells, Pt.slots] at X29 l29 y29 z29 st29 hQ29
    subst l29 y29 z29
    obtain ⟨rfl, Nq29, Kq29, A29, C29, t29, kb29, gt29, szt29, net29, U29, Vt29⟩ := hQ29
    have N29 := Fr.app N26 Nq29
    have ne_b25_t29 : b25 ≠ t29 := (Nat.ne_of_lt (Nat.lt_of_lt_of_le f30.lt szt29))
    have ne_b28_t29 : b28 ≠ t29 := (Nat.ne_of_lt (Nat.lt_of_lt_of_le A28.lt szt29))
    have Ck29 := Ce28.trans (CHr.keep Kq29 (allS (own_safeS hZ.alike A28 (D28 (Or.inr (hw _ (List.mem_of_getElem? (i := 23) rfl))) (ty := (.array .byte)) (by decide))) all0) Ce28.1)
    have hkk29 := Nat.le_trans hke28 Kq29.1
    have O29 := O28.keep Kq29 (allS ge_b28 all0)
    have K29 := K28.trans Kq29 (allS (Or.inr sz_b28) all0)
    refine own_stW (fun _ k => st29.trans k) ?_
    show own_goW _ _ _ _ _ _ _ _ _ _ (T29.setTop (mkF m 72 #[.val (.int p1), .val (.int p2), .val (.int p3), .val (.int (p2 &&& (255 : Int32))), .val (.int (((p2.toUInt32 >>> ((8 : Int32) &&& 31).toUInt32).toInt32) &&& (255 : Int32))), .val (.int (p3 &&& (255 : Int32))), .val (.int (1 : Int32)), .val (.ref b25)] [(.ref b28)]))
    exact own_retAW X29 hx hlk hS0 hkk29 hZ hEL Ck29 rfl hret rfl rfl (hb hby d1_72) (by decide) (by decide) ⟨_, rfl, N29, K29, sz_b28, A29⟩
  · skip
    rw [q]
    show own_goW _ _ _ _ _ _ _ _ _ _ (s₁.setTop (mkF m 29 #[.val (.int p1), .val (.int p2), .val (.int p3), .val (.int (p2 &&& (255 : Int32))), .val (.int (((p2.toUInt32 >>> ((8 : Int32) &&& 31).toUInt32).toInt32) &&& (255 : Int32))), .val (.int (p3 &&& (255 : Int32))), .unset, .unset] [(.int (2 : Int32))]))
    refine own_stW (fun _ k => XS.istore X0.here hx rfl (hb hby d1_29) rfl (l' := #[.val (.int p1), .val (.int p2), .val (.int p3), .val (.int (p2 &&& (255 : Int32))), .val (.int (((p2.toUInt32 >>> ((8 : Int32) &&& 31).toUInt32).toInt32) &&& (255 : Int32))), .val (.int (p3 &&& (255 : Int32))), .val (.int (2 : Int32)), .unset]) rfl k) ?_
    show own_goW _ _ _ _ _ _ _ _ _ _ (s₁.setTop (mkF m 31 #[.val (.int p1), .val (.int p2), .val (.int p3), .val (.int (p2 &&& (255 : Int32))), .val (.int (((p2.toUInt32 >>> ((8 : Int32) &&& 31).toUInt32).toInt32) &&& (255 : Int32))), .val (.int (p3 &&& (255 : Int32))), .val (.int (2 : Int32)), .unset] []))
    refine own_stW (fun _ k => XS.iload X0.here hx rfl (hb hby d1_31) rfl k) ?_
    show own_goW _ _ _ _ _ _ _ _ _ _ (s₁.setTop (mkF m 33 #[.val (.int p1), .val (.int p2), .val (.int p3), .val (.int (p2 &&& (255 : Int32))), .val (.int (((p2.toUInt32 >>> ((8 : Int32) &&& 31).toUInt32).toInt32) &&& (255 : Int32))), .val (.int (p3 &&& (255 : Int32))), .val (.int (2 : Int32)), .unset] [(.int (2 : Int32))]))
    refine own_stW (fun _ k => XS.ifYes X0.here hx rfl (pc0 := 33) (pc' := 47) rfl (hb hby d1_33) rfl (by decide) (by decide) (by decide) k) ?_
    show own_goW _ _ _ _ _ _ _ _ _ _ (s₁.setTop (mkF m 47 #[.val (.int p1), .val (.int p2), .val (.int p3), .val (.int (p2 &&& (255 : Int32))), .val (.int (((p2.toUInt32 >>> ((8 : Int32) &&& 31).toUInt32).toInt32) &&& (255 : Int32))), .val (.int (p3 &&& (255 : Int32))), .val (.int (2 : Int32)), .unset] []))
    refine own_stW (fun _ k => XS.iload X0.here hx rfl (hb hby d1_47) rfl k) ?_
    show own_goW _ _ _ _ _ _ _ _ _ _ (s₁.setTop (mkF m 49 #[.val (.int p1), .val (.int p2), .val (.int p3), .val (.int (p2 &&& (255 : Int32))), .val (.int (((p2.toUInt32 >>> ((8 : Int32) &&& 31).toUInt32).toInt32) &&& (255 : Int32))), .val (.int (p3 &&& (255 : Int32))), .val (.int (2 : Int32)), .unset] [(.int (2 : Int32))]))
    refine own_stW (fun _ k => XS.iconst X0.here hx rfl (hb hby d1_49) k) ?_
    show own_goW _ _ _ _ _ _ _ _ _ _ (s₁.setTop (mkF m 50 #[.val (.int p1), .val (.int p2), .val (.int p3), .val (.int (p2 &&& (255 : Int32))), .val (.int (((p2.toUInt32 >>> ((8 : Int32) &&& 31).toUInt32).toInt32) &&& (255 : Int32))), .val (.int (p3 &&& (255 : Int32))), .val (.int (2 : Int32)), .unset] [(.int (1 : Int32)), (.int (2 : Int32))]))
    refine own_stW (fun _ k => XS.icmpYes X0.here hx rfl (pc0 := 50) (pc' := 73) rfl (hb hby d1_50) rfl (by decide) (by decide) (by decide) k) ?_
    show own_goW _ _ _ _ _ _ _ _ _ _ (s₁.setTop (mkF m 73 #[.val (.int p1), .val (.int p2), .val (.int p3), .val (.int (p2 &&& (255 : Int32))), .val (.int (((p2.toUInt32 >>> ((8 : Int32) &&& 31).toUInt32).toInt32) &&& (255 : Int32))), .val (.int (p3 &&& (255 : Int32))), .val (.int (2 : Int32)), .unset] []))
    refine own_stW (fun _ k => XS.iload X0.here hx rfl (hb hby d1_73) rfl k) ?_
    show own_goW _ _ _ _ _ _ _ _ _ _ (s₁.setTop (mkF m 75 #[.val (.int p1), .val (.int p2), .val (.int p3), .val (.int (p2 &&& (255 : Int32))), .val (.int (((p2.toUInt32 >>> ((8 : Int32) &&& 31).toUInt32).toInt32) &&& (255 : Int32))), .val (.int (p3 &&& (255 : Int32))), .val (.int (2 : Int32)), .unset] [(.int (2 : Int32))]))
    refine own_stW (fun _ k => XS.iconst X0.here hx rfl (hb hby d1_75) k) ?_
    show own_goW _ _ _ _ _ _ _ _ _ _ (s₁.setTop (mkF m 76 #[.val (.int p1), .val (.int p2), .val (.int p3), .val (.int (p2 &&& (255 : Int32))), .val (.int (((p2.toUInt32 >>> ((8 : Int32) &&& 31).toUInt32).toInt32) &&& (255 : Int32))), .val (.int (p3 &&& (255 : Int32))), .val (.int (2 : Int32)), .unset] [(.int (2 : Int32)), (.int (2 : Int32))]))
    refine own_stW (fun _ k => XS.icmpNo X0.here hx rfl (hb hby d1_76) rfl (by decide) k) ?_
    show own_goW _ _ _ _ _ _ _ _ _ _ (s₁.setTop (mkF m 79 #[.val (.int p1), .val (.int p2), .val (.int p3), .val (.int (p2 &&& (255 : Int32))), .val (.int (((p2.toUInt32 >>> ((8 : Int32) &&& 31).toUInt32).toInt32) &&& (255 : Int32))), .val (.int (p3 &&& (255 : Int32))), .val (.int (2 : Int32)), .unset] []))
    refine own_stW (fun _ k => XS.iconst X0.here hx rfl (hb hby d1_79) k) ?_
    show own_goW _ _ _ _ _ _ _ _ _ _ (s₁.setTop (mkF m 80 #[.val (.int p1), .val (.int p2), .val (.int p3), .val (.int (p2 &&& (255 : Int32))), .val (.int (((p2.toUInt32 >>> ((8 : Int32) &&& 31).toUInt32).toInt32) &&& (255 : Int32))), .val (.int (p3 &&& (255 : Int32))), .val (.int (2 : Int32)), .unset] [(.int (2 : Int32))]))
    obtain ⟨T31, h31, k31, b31, X31, e31, g31, E31, V31, st31⟩ := own_newP X0 hx hZ (aty := .char) (hw _ (List.mem_of_getElem? (i := 10) rfl)) e0 (g := (mkF m 80 #[.val (.int p1), .val (.int p2), .val (.int p3), .val (.int (p2 &&& (255 : Int32))), .val (.int (((p2.toUInt32 >>> ((8 : Int32) &&& 31).toUInt32).toInt32) &&& (255 : Int32))), .val (.int (p3 &&& (255 : Int32))), .val (.int (2 : Int32)), .unset] [(.int (2 : Int32))])) rfl (hb hby d1_80) rfl (by decide) (cap := 2) (by decide) (by decide) (by decide) (by decide)
    replace V31 : Arv Z h31 b31 k31 .char (2 : Int32) [(.int (0 : Int32)), (.int (0 : Int32))] (.int (0 : Int32)) := V31
    have ge_b31 : n0 ≤ b31 := by rw [g31]; exact own_osz O0
    have sz_b31 : h0.size ≤ b31 := by rw [g31]; exact K0.1
    have O31 := O0.ext E31
    have K31 := K0.ext E31
    have Ce31 := C0.trans (CHr.ext E31 C0.1)
    have hke31 := Nat.le_trans hk0 E31.1
    refine own_stW st31 ?_
    show own_goW _ _ _ _ _ _ _ _ _ _ (T31.setTop (mkF m 82 #[.val (.int p1), .val (.int p2), .val (.int p3), .val (.int (p2 &&& (255 : Int32))), .val (.int (((p2.toUInt32 >>> ((8 : Int32) &&& 31).toUInt32).toInt32) &&& (255 : Int32))), .val (.int (p3 &&& (255 : Int32))), .val (.int (2 : Int32)), .unset] [(.ref b31)]))
    refine own_stW (fun _ k => XS.astore X31.here hx rfl (hb hby d1_82) rfl rfl (l' := #[.val (.int p1), .val (.int p2), .val (.int p3), .val (.int (p2 &&& (255 : Int32))), .val (.int (((p2.toUInt32 >>> ((8 : Int32) &&& 31).toUInt32).toInt32) &&& (255 : Int32))), .val (.int (p3 &&& (255 : Int32))), .val (.int (2 : Int32)), .val (.ref b31)]) rfl k) ?_
    show own_goW _ _ _ _ _ _ _ _ _ _ (T31.setTop (mkF m 84 #[.val (.int p1), .val (.int p2), .val (.int p3), .val (.int (p2 &&& (255 : Int32))), .val (.int (((p2.toUInt32 >>> ((8 : Int32) &&& 31).toUInt32).toInt32) &&& (255 : Int32))), .val (.int (p3 &&& (255 : Int32))), .val (.int (2 : Int32)), .val (.ref b31)] []))
    refine own_stW (fun _ k => XS.aload X31.here hx rfl (hb hby d1_84) rfl rfl k) ?_
    show own_goW _ _ _ _ _ _ _ _ _ _ (T31.setTop (mkF m 86 #[.val (.int p1), .val (.int p2), .val (.int p3), .val (.int (p2 &&& (255 : Int32))), .val (.int (((p2.toUInt32 >>> ((8 : Int32) &&& 31).toUInt32).toInt32) &&& (255 : Int32))), .val (.int (p3 &&& (255 : Int32))), .val (.int (2 : Int32)), .val (.ref b31)] [(.ref b31)]))
    refine own_stW (fun _ k => XS.iconst X31.here hx rfl (hb hby d1_86) k) ?_
    show own_goW _ _ _ _ _ _ _ _ _ _ (T31.setTop (mkF m 87 #[.val (.int p1), .val (.int p2), .val (.int p3), .val (.int (p2 &&& (255 : Int32))), .val (.int (((p2.toUInt32 >>> ((8 : Int32) &&& 31).toUInt32).toInt32) &&& (255 : Int32))), .val (.int (p3 &&& (255 : Int32))), .val (.int (2 : Int32)), .val (.ref b31)] [(.int (0 : Int32)), (.ref b31)]))
    refine own_stW (fun _ k => XS.iloadN X31.here hx rfl (hb hby d1_87) rfl k) ?_
    show own_goW _ _ _ _ _ _ _ _ _ _ (T31.setTop (mkF m 88 #[.val (.int p1), .val (.int p2), .val (.int p3), .val (.int (p2 &&& (255 : Int32))), .val (.int (((p2.toUInt32 >>> ((8 : Int32) &&& 31).toUInt32).toInt32) &&& (255 : Int32))), .val (.int (p3 &&& (255 : Int32))), .val (.int (2 : Int32)), .val (.ref b31)] [(.int (p2 &&& (255 : Int32))), (.int (0 : Int32)), (.ref b31)]))
    obtain ⟨T32, h32, X32, e32, W32, V32, st32⟩ := own_putC X31 hx hZ e31 V31 (y := (p2 &&& (255 : Int32))) (i2c_mask _) (j := (0 : Int32)) (by decide) 0 (by decide) (by show 0 < 2; decide) (g := (mkF m 88 #[.val (.int p1), .val (.int p2), .val (.int p3), .val (.int (p2 &&& (255 : Int32))), .val (.int (((p2.toUInt32 >>> ((8 : Int32) &&& 31).toUInt32).toInt32) &&& (255 : Int32))), .val (.int (p3 &&& (255 : Int32))), .val (.int (2 : Int32)), .val (.ref b31)] [(.int (p2 &&& (255 : Int32))), (.int (0 : Int32)), (.ref b31)])) rfl rfl (hb hby d1_88)
    have N32 := Fr.snoc X32 N0 ge_b31
    replace V32 : Arv Z h32 b31 k31 .char (2 : Int32) [(.int (p2 &&& (255 : Int32))), (.int (0 : Int32))] (.int (0 : Int32)) := V32
    have sf33 : Safe Z consts_1 s.vm h31 b31 := (own_safeV hZ.alike V31 (by decide))
    have Cw33 := Ce31.trans (CHr.wr W32 sf33 Ce31.1)
    have hkw33 := Nat.le_trans hke31 (Keep.of_wr W32).1
    have O33 := O31.wr W32 ge_b31
    have K33 := K31.wr W32 (Or.inr sz_b31)
    refine own_stW st32 ?_
    show own_goW _ _ _ _ _ _ _ _ _ _ (T32.setTop (mkF m 89 #[.val (.int p1), .val (.int p2), .val (.int p3), .val (.int (p2 &&& (255 : Int32))), .val (.int (((p2.toUInt32 >>> ((8 : Int32) &&& 31).toUInt32).toInt32) &&& (255 : Int32))), .val (.int (p3 &&& (255 : Int32))), .val (.int (2 : Int32)), .val (.ref b31)] []))
    refine own_stW (fun _ k => XS.aload X32.here hx rfl (hb hby d1_89) rfl rfl k) ?_
    show own_goW _ _ _ _ _ _ _ _ _ _ (T32.setTop (mkF m 91 #[.val (.int p1), .val (.int p2), .val (.int p3), .val (.int (p2 &&& (255 : Int32))), .val (.int (((p2.toUInt32 >>> ((8 : Int32) &&& 31).toUInt32).toInt32) &&& (255 : Int32))), .val (.int (p3 &&& (255 : Int32))), .val (.int (2 : Int32)), .val (.ref b31)] [(.ref b31)]))
    refine own_stW (fun _ k => XS.iconst X32.here hx rfl (hb hby d1_91) k) ?_
    show own_goW _ _ _ _ _ _ _ _ _ _ (T32.setTop (mkF m 92 #[.val (.int p1), .val (.int p2), .val (.int p3), .val (.int (p2 &&& (255 : Int32))), .val (.int (((p2.toUInt32 >>> ((8 : Int32) &&& 31).toUInt32).toInt32) &&& (255 : Int32))), .val (.int (p3 &&& (255 : Int32))), .val (.int (2 : Int32)), .val (.ref b31)] [(.int (1 : Int32)), (.ref b31)]))
    refine own_stW (fun _ k => XS.iload X32.here hx rfl (hb hby d1_92) rfl k) ?_
    show own_goW _ _ _ _ _ _ _ _ _ _ (T32.setTop (mkF m 94 #[.val (.int p1), .val (.int p2), .val (.int p3), .val (.int (p2 &&& (255 : Int32))), .val (.int (((p2.toUInt32 >>> ((8 : Int32) &&& 31).toUInt32).toInt32) &&& (255 : Int32))), .val (.int (p3 &&& (255 : Int32))), .val (.int (2 : Int32)), .val (.ref b31)] [(.int (((p2.toUInt32 >>> ((8 : Int32) &&& 31).toUInt32).toInt32) &&& (255 : Int32))), (.int (1 : Int32)), (.ref b31)]))
    obtain ⟨T34, h34, X34, e34, W34, V34, st34⟩ := own_putC X32 hx hZ e32 V32 (y := (((p2.toUInt32 >>> ((8 : Int32) &&& 31).toUInt32).toInt32) &&& (255 : Int32))) (i2c_mask _) (j := (1 : Int32)) (by decide) 1 (by decide) (by show 1 < 2; decide) (g := (mkF m 94 #[.val (.int p1), .val (.int p2), .val (.int p3), .val (.int (p2 &&& (255 : Int32))), .val (.int (((p2.toUInt32 >>> ((8 : Int32) &&& 31).toUInt32).toInt32) &&& (255 : Int32))), .val (.int (p3 &&& (255 : Int32))), .val (.int (2 : Int32)), .val (.ref b31)] [(.int (((p2.toUInt32 >>> ((8 : Int32) &&& 31).toUInt32).toInt32) &&& (255 : Int32))), (.int (1 : Int32)), (.ref b31)])) rfl rfl (hb hby d1_94)
    have N34 := Fr.snoc X34 N32 ge_b31
    replace V34 : Arv Z h34 b31 k31 .char (2 : Int32) [(.int (p2 &&& (255 : Int32))), (.int (((p2.toUInt32 >>> ((8 : Int32) &&& 31).toUInt32).toInt32) &&& (255 : Int32)))] (.int (0 : Int32)) := V34
    have sf35 : Safe Z consts_1 s.vm h32 b31 := (own_safeV hZ.alike V32 (by decide))
    have Cw35 := Cw33.trans (CHr.wr W34 sf35 Cw33.1)
    have hkw35 := Nat.le_trans hkw33 (Keep.of_wr W34).1
    have O35 := O33.wr W34 ge_b31
    have K35 := K33.wr W34 (Or.inr sz_b31)
    refine own_stW st34 ?_
    show own_goW _ _ _ _ _ _ _ _ _ _ (T34.setTop (mkF m 95 #[.val (.int p1), .val (.int p2), .val (.int p3), .val (.int (p2 &&& (255 : Int32))), .val (.int (((p2.toUInt32 >>> ((8 : Int32) &&& 31).toUInt32).toInt32) &&& (255 : Int32))), .val (.int (p3 &&& (255 : Int32))), .val (.int (2 : Int32)), .val (.ref b31)] []))
    obtain ⟨T36, h36, X36, e36, E36, A36, D36, -, st36⟩ := newO X34 hx hZ hown (hw _ (List.mem_of_getElem? (i := 7) rfl)) (hw _ (List.mem_of_getElem? (i := 8) rfl)) (hw _ (List.mem_of_getElem? (i := 9) rfl)) e34 (g := (mkF m 95 #[.val (.int p1), .val (.int p2), .val (.int p3), .val (.int (p2 &&& (255 : Int32))), .val (.int (((p2.toUInt32 >>> ((8 : Int32) &&& 31).toUInt32).toInt32) &&& (255 : Int32))), .val (.int (p3 &&& (255 : Int32))), .val (.int (2 : Int32)), .val (.ref b31)] [])) rfl (hb hby d1_95) (by decide) (by decide)
    obtain ⟨b36, g36⟩ : ∃ z, z = h34.size := ⟨_, rfl⟩
    rw [← g36] at A36 D36 st36
    have ge_b36 : n0 ≤ b36 := by rw [g36]; exact own_osz O35
    have sz_b36 : h0.size ≤ b36 := by rw [g36]; exact K35.1
    have ne_b31_b36 : b31 ≠ b36 := (fun q => absurd V34.lt (by rw [q, g36]; exact Nat.lt_irrefl _))
    have O36 := O35.ext E36
    have K36 := K35.ext E36
    have Ce36 := Cw35.trans (CHr.ext E36 Cw35.1)
    have hke36 := Nat.le_trans hkw35 E36.1
    refine own_stW st36 ?_
    show own_goW _ _ _ _ _ _ _ _ _ _ (T36.setTop (mkF m 98 #[.val (.int p1), .val (.int p2), .val (.int p3), .val (.int (p2 &&& (255 : Int32))), .val (.int (((p2.toUInt32 >>> ((8 : Int32) &&& 31).toUInt32).toInt32) &&& (255 : Int32))), .val (.int (p3 &&& (255 : Int32))), .val (.int (2 : Int32)), .val (.ref b31)] [(.ref b36)]))
    refine own_stW (fun _ k => XS.dup X36.here hx rfl (hb hby d1_98) rfl rfl k) ?_
    show own_goW _ _ _ _ _ _ _ _ _ _ (T36.setTop (mkF m 99 #[.val (.int p1), .val (.int p2), .val (.int p3), .val (.int (p2 &&& (255 : Int32))), .val (.int (((p2.toUInt32 >>> ((8 : Int32) &&& 31).toUInt32).toInt32) &&& (255 : Int32))), .val (.int (p3 &&& (255 : Int32))), .val (.int (2 : Int32)), .val (.ref b31)] [(.ref b36), (.ref b36)]))
    refine own_stW (fun _ k => XS.aload X36.here hx rfl (hb hby d1_99) rfl rfl k) ?_
    show own_goW _ _ _ _ _ _ _ _ _ _ (T36.setTop (mkF m 101 #[.val (.int p1), .val (.int p2), .val (.int p3), .val (.int (p2 &&& (255 : Int32))), .val (.int (((p2.toUInt32 >>> ((8 : Int32) &&& 31).toUInt32).toInt32) &&& (255 : Int32))), .val (.int (p3 &&& (255 : Int32))), .val (.int (2 : Int32)), .val (.ref b31)] [(.ref b31), (.ref b36), (.ref b36)]))
    have hws37 : ∀ d ∈ StrChars.Road.words, d.before a0 Z = true := fun d hd => hw d ((by decide +kernel : ∀ d ∈ StrChars.Road.words, d ∈ tables_1) d hd)
    have hlat37 : ∀ c ∈ [(p2 &&& (255 : Int32)), (((p2.toUInt32 >>> ((8 : Int32) &&& 31).toUInt32).toInt32) &&& (255 : Int32))], ¬ c < 0 ∧ ¬ (255 : Int32) < c := by
      intro c hc
      simp only [List.mem_cons, List.not_mem_nil, or_false] at hc
      rcases hc with rfl | rfl
      · exact own_p255 _
      · exact own_p255 _
    have f38 := (V34.ext E36)
    obtain ⟨v37, _, ⟨T37, L37, k37, n37⟩, -, X37, ⟨Lc37, hQ37, l37, y37, z37⟩, st37⟩ := X36.specialBack hx (y := (⟨"java/lang/String", "<init>", "([C)V"⟩ : MethodName)) rfl hown (mvT hZ (hw _ (List.mem_of_getElem? (i := 11) rfl))) (mvT hZ (hw _ (List.mem_of_getElem? (i := 12) rfl))) (mvT hZ (hw _ (List.mem_of_getElem? (i := 13) rfl))) (by decide) (StrChars.Road.backV (W := 1) hZ hws37 (kI := 4) (hw _ (List.mem_of_getElem? (i := 8) rfl)) (cs := [(p2 &&& (255 : Int32)), (((p2.toUInt32 >>> ((8 : Int32) &&& 31).toUInt32).toInt32) &&& (255 : Int32))]) (bs := [((p2 &&& (255 : Int32))).toInt8.toInt32, ((((p2.toUInt32 >>> ((8 : Int32) &&& 31).toUInt32).toInt32) &&& (255 : Int32))).toInt8.toInt32]) (n := 2) ge_b36 (own_osz O36) A36 (D36 (Or.inr (hw _ (List.mem_of_getElem? (i := 23) rfl))) (ty := (.array .byte)) (by decide)) (D36 (Or.inr (hw _ (List.mem_of_getElem? (i := 24) rfl))) (ty := .byte) (by decide)) f38 (hS.2.2.2.2.2.2.1.ext O36.2) hS.2.2.2.2.2.2.2 rfl rfl (by decide) (by decide) hlat37 rfl (by decide) (by decide)) (g := (mkF m 101 #[.val (.int p1), .val (.int p2), .val (.int p3), .val (.int (p2 &&& (255 : Int32))), .val (.int (((p2.toUInt32 >>> ((8 : Int32) &&& 31).toUInt32).toInt32) &&& (255 : Int32))), .val (.int (p3 &&& (255 : Int32))), .val (.int (2 : Int32)), .val (.ref b31)] [(.ref b31), (.ref b36), (.ref b36)])) rfl (by rw [hml]; rfl) (Steps.refl _) (a := b36) (argsL := [(.ref b31)]) (rest := [(.ref b36)]) (lenOf own_pd__28_5bC_29V rfl) rfl (by show 2 * 0 + _ ≤ _; exact Nat.le_of_eq rfl) (hb hby d1_101) (fun _ _ => ⟨rfl, e36, (by decide : 2 + 1 ≤ _), (by decide : 6 + 2 ≤ _)⟩)
    dsimp only [Pt.U, Pt.locs, Pt.cells, Pt.slots] at X37 l37 y37 z37 st37 hQ37
    subst l37 y37 z37
    obtain ⟨rfl, Nq37, Kq37, A37, C37, t37, kb37, gt37, szt37, net37, U37, Vt37⟩ := hQ37
    have N37 := Fr.app N34 Nq37
    have ne_b31_t37 : b31 ≠ t37 := (Nat.ne_of_lt (Nat.lt_of_lt_of_le f38.lt szt37))
    have ne_b36_t37 : b36 ≠ t37 := (Nat.ne_of_lt (Nat.lt_of_lt_of_le A36.lt szt37))
    have Ck37 := Ce36.trans (CHr.keep Kq37 (allS (own_safeS hZ.alike A36 (D36 (Or.inr (hw _ (List.mem_of_getElem? (i := 23) rfl))) (ty := (.array .byte)) (by decide))) all0) Ce36.1)
    have hkk37 := Nat.le_trans hke36 Kq37.1
    have O37 := O36.keep Kq37 (allS ge_b36 all0)
    have K37 := K36.trans Kq37 (allS (Or.inr sz_b36) all0)
    refine own_stW (fun _ k => st37.trans k) ?_
    show own_goW _ _ _ _ _ _ _ _ _ _ (T37.setTop (mkF m 104 #[.val (.int p1), .val (.int p2), .val (.int p3), .val (.int (p2 &&& (255 : Int32))), .val (.int (((p2.toUInt32 >>> ((8 : Int32) &&& 31).toUInt32).toInt32) &&& (255 : Int32))), .val (.int (p3 &&& (255 : Int32))), .val (.int (2 : Int32)), .val (.ref b31)] [(.ref b36)]))
    exact own_retAW X37 hx hlk hS0 hkk37 hZ hEL Ck37 rfl hret rfl rfl (hb hby d1_104) (by decide) (by decide) ⟨_, rfl, N37, K37, sz_b36, A37⟩
  · skip
    rw [q]
    show own_goW _ _ _ _ _ _ _ _ _ _ (s₁.setTop (mkF m 29 #[.val (.int p1), .val (.int p2), .val (.int p3), .val (.int (p2 &&& (255 : Int32))), .val (.int (((p2.toUInt32 >>> ((8 : Int32) &&& 31).toUInt32).toInt32) &&& (255 : Int32))), .val (.int (p3 &&& (255 : Int32))), .unset, .unset] [(.int (3 : Int32))]))
    refine own_stW (fun _ k => XS.istore X0.here hx rfl (hb hby d1_29) rfl (l' := #[.val (.int p1), .val (.int p2), .val (.int p3), .val (.int (p2 &&& (255 : Int32))), .val (.int (((p2.toUInt32 >>> ((8 : Int32) &&& 31).toUInt32).toInt32) &&& (255 : Int32))), .val (.int (p3 &&& (255 : Int32))), .val (.int (3 : Int32)), .unset]) rfl k) ?_
    show own_goW _ _ _ _ _ _ _ _ _ _ (s₁.setTop (mkF m 31 #[.val (.int p1), .val (.int p2), .val (.int p3), .val (.int (p2 &&& (255 : Int32))), .val (.int (((p2.toUInt32 >>> ((8 : Int32) &&& 31).toUInt32).toInt32) &&& (255 : Int32))), .val (.int (p3 &&& (255 : Int32))), .val (.int (3 : Int32)), .unset] []))
    refine own_stW (fun _ k => XS.iload X0.here hx rfl (hb hby d1_31) rfl k) ?_
    show own_goW _ _ _ _ _ _ _ _ _ _ (s₁.setTop (mkF m 33 #[.val (.int p1), .val (.int p2), .val (.int p3), .val (.int (p2 &&& (255 : Int32))), .val (.int (((p2.toUInt32 >>> ((8 : Int32) &&& 31).toUInt32).toInt32) &&& (255 : Int32))), .val (.int (p3 &&& (255 : Int32))), .val (.int (3 : Int32)), .unset] [(.int (3 : Int32))]))
    refine own_stW (fun _ k => XS.ifYes X0.here hx rfl (pc0 := 33) (pc' := 47) rfl (hb hby d1_33) rfl (by decide) (by decide) (by decide) k) ?_
    show own_goW _ _ _ _ _ _ _ _ _ _ (s₁.setTop (mkF m 47 #[.val (.int p1), .val (.int p2), .val (.int p3), .val (.int (p2 &&& (255 : Int32))), .val (.int (((p2.toUInt32 >>> ((8 : Int32) &&& 31).toUInt32).toInt32) &&& (255 : Int32))), .val (.int (p3 &&& (255 : Int32))), .val (.int (3 : Int32)), .unset] []))
    refine own_stW (fun _ k => XS.iload X0.here hx rfl (hb hby d1_47) rfl k) ?_
    show own_goW _ _ _ _ _ _ _ _ _ _ (s₁.setTop (mkF m 49 #[.val (.int p1), .val (.int p2), .val (.int p3), .val (.int (p2 &&& (255 : Int32))), .val (.int (((p2.toUInt32 >>> ((8 : Int32) &&& 31).toUInt32).toInt32) &&& (255 : Int32))), .val (.int (p3 &&& (255 : Int32))), .val (.int (3 : Int32)), .unset] [(.int (3 : Int32))]))
    refine own_stW (fun _ k => XS.iconst X0.here hx rfl (hb hby d1_49) k) ?_
    show own_goW _ _ _ _ _ _ _ _ _ _ (s₁.setTop (mkF m 50 #[.val (.int p1), .val (.int p2), .val (.int p3), .val (.int (p2 &&& (255 : Int32))), .val (.int (((p2.toUInt32 >>> ((8 : Int32) &&& 31).toUInt32).toInt32) &&& (255 : Int32))), .val (.int (p3 &&& (255 : Int32))), .val (.int (3 : Int32)), .unset] [(.int (1 : Int32)), (.int (3 : Int32))]))
    refine own_stW (fun _ k => XS.icmpYes X0.here hx rfl (pc0 := 50) (pc' := 73) rfl (hb hby d1_50) rfl (by decide) (by decide) (by decide) k) ?_
    show own_goW _ _ _ _ _ _ _ _ _ _ (s₁.setTop (mkF m 73 #[.val (.int p1), .val (.int p2), .val (.int p3), .val (.int (p2 &&& (255 : Int32))), .val (.int (((p2.toUInt32 >>> ((8 : Int32) &&& 31).toUInt32).toInt32) &&& (255 : Int32))), .val (.int (p3 &&& (255 : Int32))), .val (.int (3 : Int32)), .unset] []))
    refine own_stW (fun _ k => XS.iload X0.here hx rfl (hb hby d1_73) rfl k) ?_
    show own_goW _ _ _ _ _ _ _ _ _ _ (s₁.setTop (mkF m 75 #[.val (.int p1), .val (.int p2), .val (.int p3), .val (.int (p2 &&& (255 : Int32))), .val (.int (((p2.toUInt32 >>> ((8 : Int32) &&& 31).toUInt32).toInt32) &&& (255 : Int32))), .val (.int (p3 &&& (255 : Int32))), .val (.int (3 : Int32)), .unset] [(.int (3 : Int32))]))
    refine own_stW (fun _ k => XS.iconst X0.here hx rfl (hb hby d1_75) k) ?_
    show own_goW _ _ _ _ _ _ _ _ _ _ (s₁.setTop (mkF m 76 #[.val (.int p1), .val (.int p2), .val (.int p3), .val (.int (p2 &&& (255 : Int32))), .val (.int (((p2.toUInt32 >>> ((8 : Int32) &&& 31).toUInt32).toInt32) &&& (255 : Int32))), .val (.int (p3 &&& (255 : Int32))), .val (.int (3 : Int32)), .unset] [(.int (2 : Int32)), (.int (3 : Int32))]))
    refine own_stW (fun _ k => XS.icmpYes X0.here hx rfl (pc0 := 76) (pc' := 105) rfl (hb hby d1_76) rfl (by decide) (by decide) (by decide) k) ?_
    show own_goW _ _ _ _ _ _ _ _ _ _ (s₁.setTop (mkF m 105 #[.val (.int p1), .val (.int p2), .val (.int p3), .val (.int (p2 &&& (255 : Int32))), .val (.int (((p2.toUInt32 >>> ((8 : Int32) &&& 31).toUInt32).toInt32) &&& (255 : Int32))), .val (.int (p3 &&& (255 : Int32))), .val (.int (3 : Int32)), .unset] []))
    refine own_stW (fun _ k => XS.iconst X0.here hx rfl (hb hby d1_105) k) ?_
    show own_goW _ _ _ _ _ _ _ _ _ _ (s₁.setTop (mkF m 106 #[.val (.int p1), .val (.int p2), .val (.int p3), .val (.int (p2 &&& (255 : Int32))), .val (.int (((p2.toUInt32 >>> ((8 : Int32) &&& 31).toUInt32).toInt32) &&& (255 : Int32))), .val (.int (p3 &&& (255 : Int32))), .val (.int (3 : Int32)), .unset] [(.int (3 : Int32))]))
    obtain ⟨T39, h39, k39, b39, X39, e39, g39, E39, V39, st39⟩ := own_newP X0 hx hZ (aty := .char) (hw _ (List.mem_of_getElem? (i := 10) rfl)) e0 (g := (mkF m 106 #[.val (.int p1), .val (.int p2), .val (.int p3), .val (.int (p2 &&& (255 : Int32))), .val (.int (((p2.toUInt32 >>> ((8 : Int32) &&& 31).toUInt32).toInt32) &&& (255 : Int32))), .val (.int (p3 &&& (255 : Int32))), .val (.int (3 : Int32)), .unset] [(.int (3 : Int32))])) rfl (hb hby d1_106) rfl (by decide) (cap := 3) (by decide) (by decide) (by decide) (by decide)
    replace V39 : Arv Z h39 b39 k39 .char (3 : Int32) [(.int (0 : Int32)), (.int (0 : Int32)), (.int (0 : Int32))] (.int (0 : Int32)) := V39
    have ge_b39 : n0 ≤ b39 := by rw [g39]; exact own_osz O0
    have sz_b39 : h0.size ≤ b39 := by rw [g39]; exact K0.1
    have O39 := O0.ext E39
    have K39 := K0.ext E39
    have Ce39 := C0.trans (CHr.ext E39 C0.1)
    have hke39 := Nat.le_trans hk0 E39.1
    refine own_stW st39 ?_
    show own_goW _ _ _ _ _ _ _ _ _ _ (T39.setTop (mkF m 108 #[.val (.int p1), .val (.int p2), .val (.int p3), .val (.int (p2 &&& (255 : Int32))), .val (.int (((p2.toUInt32 >>> ((8 : Int32) &&& 31).toUInt32).toInt32) &&& (255 : Int32))), .val (.int (p3 &&& (255 : Int32))), .val (.int (3 : Int32)), .unset] [(.ref b39)]))
    refine own_stW (fun _ k => XS.astore X39.here hx rfl (hb hby d1_108) rfl rfl (l' := #[.val (.int p1), .val (.int p2), .val (.int p3), .val (.int (p2 &&& (255 : Int32))), .val (.int (((p2.toUInt32 >>> ((8 : Int32) &&& 31).toUInt32).toInt32) &&& (255 : Int32))), .val (.int (p3 &&& (255 : Int32))), .val (.int (3 : Int32)), .val (.ref b39)]) rfl k) ?_
    show own_goW _ _ _ _ _ _ _ _ _ _ (T39.setTop (mkF m 110 #[.val (.int p1), .val (.int p2), .val (.int p3), .val (.int (p2 &&& (255 : Int32))), .val (.int (((p2.toUInt32 >>> ((8 : Int32) &&& 31).toUInt32).toInt32) &&& (255 : Int32))), .val (.int (p3 &&& (255 : Int32))), .val (.int (3 : Int32)), .val (.ref b39)] []))
    refine own_stW (fun _ k => XS.aload X39.here hx rfl (hb hby d1_110) rfl rfl k) ?_
    show own_goW _ _ _ _ _ _ _ _ _ _ (T39.setTop (mkF m 112 #[.val (.int p1), .val (.int p2), .val (.int p3), .val (.int (p2 &&& (255 : Int32))), .val (.int (((p2.toUInt32 >>> ((8 : Int32) &&& 31).toUInt32).toInt32) &&& (255 : Int32))), .val (.int (p3 &&& (255 : Int32))), .val (.int (3 : Int32)), .val (.ref b39)] [(.ref b39)]))
    refine own_stW (fun _ k => XS.iconst X39.here hx rfl (hb hby d1_112) k) ?_
    show own_goW _ _ _ _ _ _ _ _ _ _ (T39.setTop (mkF m 113 #[.val (.int p1), .val (.int p2), .val (.int p3), .val (.int (p2 &&& (255 : Int32))), .val (.int (((p2.toUInt32 >>> ((8 : Int32) &&& 31).toUInt32).toInt32) &&& (255 : Int32))), .val (.int (p3 &&& (255 : Int32))), .val (.int (3 : Int32)), .val (.ref b39)] [(.int (0 : Int32)), (.ref b39)]))
    refine own_stW (fun _ k => XS.iloadN X39.here hx rfl (hb hby d1_113) rfl k) ?_
    show own_goW _ _ _ _ _ _ _ _ _ _ (T39.setTop (mkF m 114 #[.val (.int p1), .val (.int p2), .val (.int p3), .val (.int (p2 &&& (255 : Int32))), .val (.int (((p2.toUInt32 >>> ((8 : Int32) &&& 31).toUInt32).toInt32) &&& (255 : Int32))), .val (.int (p3 &&& (255 : Int32))), .val (.int (3 : Int32)), .val (.ref b39)] [(.int (p2 &&& (255 : Int32))), (.int (0 : Int32)), (.ref b39)]))
    obtain ⟨T40, h40, X40, e40, W40, V40, st40⟩ := own_putC X39 hx hZ e39 V39 (y := (p2 &&& (255 : Int32))) (i2c_mask _) (j := (0 : Int32)) (by decide) 0 (by decide) (by show 0 < 3; decide) (g := (mkF m 114 #[.val (.int p1), .val (.int p2), .val (.int p3), .val (.int (p2 &&& (255 : Int32))), .val (.int (((p2.toUInt32 >>> ((8 : Int32) &&& 31).toUInt32).toInt32) &&& (255 : Int32))), .val (.int (p3 &&& (255 : Int32))), .val (.int (3 : Int32)), .val (.ref b39)] [(.int (p2 &&& (255 : Int32))), (.int (0 : Int32)), (.ref b39)])) rfl rfl (hb hby d1_114)
    have N40 := Fr.snoc X40 N0 ge_b39
    replace V40 : Arv Z h40 b39 k39 .char (3 : Int32) [(.int (p2 &&& (255 : Int32))), (.int (0 : Int32)), (.int (0 : Int32))] (.int (0 : Int32)) := V40
    have sf41 : Safe Z consts_1 s.vm h39 b39 := (own_safeV hZ.alike V39 (by decide))
    have Cw41 := Ce39.trans (CHr.wr W40 sf41 Ce39.1)
    have hkw41 := Nat.le_trans hke39 (Keep.of_wr W40).1
    have O41 := O39.wr W40 ge_b39
    have K41 := K39.wr W40 (Or.inr sz_b39)
    refine own_stW st40 ?_
    show own_goW _ _ _ _ _ _ _ _ _ _ (T40.setTop (mkF m 115 #[.val (.int p1), .val (.int p2), .val (.int p3), .val (.int (p2 &&& (255 : Int32))), .val (.int (((p2.toUInt32 >>> ((8 : Int32) &&& 31).toUInt32).toInt32) &&& (255 : Int32))), .val (.int (p3 &&& (255 : Int32))), .val (.int (3 : Int32)), .val (.ref b39)] []))
    refine own_stW (fun _ k => XS.aload X40.here hx rfl (hb hby d1_115) rfl rfl k) ?_
    show own_goW _ _ _ _ _ _ _ _ _ _ (T40.setTop (mkF m 117 #[.val (.int p1), .val (.int p2), .val (.int p3), .val (.int (p2 &&& (255 : Int32))), .val (.int (((p2.toUInt32 >>> ((8 : Int32) &&& 31).toUInt32).toInt32) &&& (255 : Int32))), .val (.int (p3 &&& (255 : Int32))), .val (.int (3 : Int32)), .val (.ref b39)] [(.ref b39)]))
    refine own_stW (fun _ k => XS.iconst X40.here hx rfl (hb hby d1_117) k) ?_
    show own_goW _ _ _ _ _ _ _ _ _ _ (T40.setTop (mkF m 118 #[.val (.int p1), .val (.int p2), .val (.int p3), .val (.int (p2 &&& (255 : Int32))), .val (.int (((p2.toUInt32 >>> ((8 : Int32) &&& 31).toUInt32).toInt32) &&& (255 : Int32))), .val (.int (p3 &&& (255 : Int32))), .val (.int (3 : Int32)), .val (.ref b39)] [(.int (1 : Int32)), (.ref b39)]))
    refine own_stW (fun _ k => XS.iload X40.here hx rfl (hb hby d1_118) rfl k) ?_
    show own_goW _ _ _ _ _ _ _ _ _ _ (T40.setTop (mkF m 120 #[.val (.int p1), .val (.int p2), .val (.int p3), .val (.int (p2 &&& (255 : Int32))), .val (.int (((p2.toUInt32 >>> ((8 : Int32) &&& 31).toUInt32).toInt32) &&& (255 : Int32))), .val (.int (p3 &&& (255 : Int32))), .val (.int (3 : Int32)), .val (.ref b39)] [(.int (((p2.toUInt32 >>> ((8 : Int32) &&& 31).toUInt32).toInt32) &&& (255 : Int32))), (.int (1 : Int32)), (.ref b39)]))
    obtain ⟨T42, h42, X42, e42, W42, V42, st42⟩ := own_putC X40 hx hZ e40 V40 (y := (((p2.toUInt32 >>> ((8 : Int32) &&& 31).toUInt32).toInt32) &&& (255 : Int32))) (i2c_mask _) (j := (1 : Int32)) (by decide) 1 (by decide) (by show 1 < 3; decide) (g := (mkF m 120 #[.val (.int p1), .val (.int p2), .val (.int p3), .val (.int (p2 &&& (255 : Int32))), .val (.int (((p2.toUInt32 >>> ((8 : Int32) &&& 31).toUInt32).toInt32) &&& (255 : Int32))), .val (.int (p3 &&& (255 : Int32))), .val (.int (3 : Int32)), .val (.ref b39)] [(.int (((p2.toUInt32 >>> ((8 : Int32) &&& 31).toUInt32).toInt32) &&& (255 : Int32))), (.int (1 : Int32)), (.ref b39)])) rfl rfl (hb hby d1_120)
    have N42 := Fr.snoc X42 N40 ge_b39
    replace V42 : Arv Z h42 b39 k39 .char (3 : Int32) [(.int (p2 &&& (255 : Int32))), (.int (((p2.toUInt32 >>> ((8 : Int32) &&& 31).toUInt32).toInt32) &&& (255 : Int32))), (.int (0 : Int32))] (.int (0 : Int32)) := V42
    have sf43 : Safe Z consts_1 s.vm h40 b39 := (own_safeV hZ.alike V40 (by decide))
    have Cw43 := Cw41.trans (CHr.wr W42 sf43 Cw41.1)
    have hkw43 := Nat.le_trans hkw41 (Keep.of_wr W42).1
    have O43 := O41.wr W42 ge_b39
    have K43 := K41.wr W42 (Or.inr sz_b39)
    refine own_stW st42 ?_
    show own_goW _ _ _ _ _ _ _ _ _ _ (T42.setTop (mkF m 121 #[.val (.int p1), .val (.int p2), .val (.int p3), .val (.int (p2 &&& (255 : Int32))), .val (.int (((p2.toUInt32 >>> ((8 : Int32) &&& 31).toUInt32).toInt32) &&& (255 : Int32))), .val (.int (p3 &&& (255 : Int32))), .val (.int (3 : Int32)), .val (.ref b39)] []))
    refine own_stW (fun _ k => XS.aload X42.here hx rfl (hb hby d1_121) rfl rfl k) ?_
    show own_goW _ _ _ _ _ _ _ _ _ _ (T42.setTop (mkF m 123 #[.val (.int p1), .val (.int p2), .val (.int p3), .val (.int (p2 &&& (255 : Int32))), .val (.int (((p2.toUInt32 >>> ((8 : Int32) &&& 31).toUInt32).toInt32) &&& (255 : Int32))), .val (.int (p3 &&& (255 : Int32))), .val (.int (3 : Int32)), .val (.ref b39)] [(.ref b39)]))
    refine own_stW (fun _ k => XS.iconst X42.here hx rfl (hb hby d1_123) k) ?_
    show own_goW _ _ _ _ _ _ _ _ _ _ (T42.setTop (mkF m 124 #[.val (.int p1), .val (.int p2), .val (.int p3), .val (.int (p2 &&& (255 : Int32))), .val (.int (((p2.toUInt32 >>> ((8 : Int32) &&& 31).toUInt32).toInt32) &&& (255 : Int32))), .val (.int (p3 &&& (255 : Int32))), .val (.int (3 : Int32)), .val (.ref b39)] [(.int (2 : Int32)), (.ref b39)]))
    refine own_stW (fun _ k => XS.iload X42.here hx rfl (hb hby d1_124) rfl k) ?_
    show own_goW _ _ _ _ _ _ _ _ _ _ (T42.setTop (mkF m 126 #[.val (.int p1), .val (.int p2), .val (.int p3), .val (.int (p2 &&& (255 : Int32))), .val (.int (((p2.toUInt32 >>> ((8 : Int32) &&& 31).toUInt32).toInt32) &&& (255 : Int32))), .val (.int (p3 &&& (255 : Int32))), .val (.int (3 : Int32)), .val (.ref b39)] [(.int (p3 &&& (255 : Int32))), (.int (2 : Int32)), (.ref b39)]))
    obtain ⟨T44, h44, X44, e44, W44, V44, st44⟩ := own_putC X42 hx hZ e42 V42 (y := (p3 &&& (255 : Int32))) (i2c_mask _) (j := (2 : Int32)) (by decide) 2 (by decide) (by show 2 < 3; decide) (g := (mkF m 126 #[.val (.int p1), .val (.int p2), .val (.int p3), .val (.int (p2 &&& (255 : Int32))), .val (.int (((p2.toUInt32 >>> ((8 : Int32) &&& 31).toUInt32).toInt32) &&& (255 : Int32))), .val (.int (p3 &&& (255 : Int32))), .val (.int (3 : Int32)), .val (.ref b39)] [(.int (p3 &&& (255 : Int32))), (.int (2 : Int32)), (.ref b39)])) rfl rfl (hb hby d1_126)
    have N44 := Fr.snoc X44 N42 ge_b39
    replace V44 : Arv Z h44 b39 k39 .char (3 : Int32) [(.int (p2 &&& (255 : Int32))), (.int (((p2.toUInt32 >>> ((8 : Int32) &&& 31).toUInt32).toInt32) &&& (255 : Int32))), (.int (p3 &&& (255 : Int32)))] (.int (0 : Int32)) := V44
    have sf45 : Safe Z consts_1 s.vm h42 b39 := (own_safeV hZ.alike V42 (by decide))
    have Cw45 := Cw43.trans (CHr.wr W44 sf45 Cw43.1)
    have hkw45 := Nat.le_trans hkw43 (Keep.of_wr W44).1
    have O45 := O43.wr W44 ge_b39
    have K45 := K43.wr W44 (Or.inr sz_b39)
    refine own_stW st44 ?_
    show own_goW _ _ _ _ _ _ _ _ _ _ (T44.setTop (mkF m 127 #[.val (.int p1), .val (.int p2), .val (.int p3), .val (.int (p2 &&& (255 : Int32))), .val (.int (((p2.toUInt32 >>> ((8 : Int32) &&& 31).toUInt32).toInt32) &&& (255 : Int32))), .val (.int (p3 &&& (255 : Int32))), .val (.int (3 : Int32)), .val (.ref b39)] []))
    obtain ⟨T46, h46, X46, e46, E46, A46, D46, -, st46⟩ := newO X44 hx hZ hown (hw _ (List.mem_of_getElem? (i := 7) rfl)) (hw _ (List.mem_of_getElem? (i := 8) rfl)) (hw _ (List.mem_of_getElem? (i := 9) rfl)) e44 (g := (mkF m 127 #[.val (.int p1), .val (.int p2), .val (.int p3), .val (.int (p2 &&& (255 : Int32))), .val (.int (((p2.toUInt32 >>> ((8 : Int32) &&& 31).toUInt32).toInt32) &&& (255 : Int32))), .val (.int (p3 &&& (255 : Int32))), .val (.int (3 : Int32)), .val (.ref b39)] [])) rfl (hb hby d1_127) (by decide) (by decide)
    obtain ⟨b46, g46⟩ : ∃ z, z = h44.size := ⟨_, rfl⟩
    rw [← g46] at A46 D46 st46
    have ge_b46 : n0 ≤ b46 := by rw [g46]; exact own_osz O45
    have sz_b46 : h0.size ≤ b46 := by rw [g46]; exact K45.1
    have ne_b39_b46 : b39 ≠ b46 := (fun q => absurd V44.lt (by rw [q, g46]; exact Nat.lt_irrefl _))
    have O46 := O45.ext E46
    have K46 := K45.ext E46
    have Ce46 := Cw45.trans (CHr.ext E46 Cw45.1)
    have hke46 := Nat.le_trans hkw45 E46.1
    refine own_stW st46 ?_
    show own_goW _ _ _ _ _ _ _ _ _ _ (T46.setTop (mkF m 130 #[.val (.int p1), .val (.int p2), .val (.int p3), .val (.int (p2 &&& (255 : Int32))), .val (.int (((p2.toUInt32 >>> ((8 : Int32) &&& 31).toUInt32).toInt32) &&& (255 : Int32))), .val (.int (p3 &&& (255 : Int32))), .val (.int (3 : Int32)), .val (.ref b39)] [(.ref b46)]))
    refine own_stW (fun _ k => XS.dup X46.here hx rfl (hb hby d1_130) rfl rfl k) ?_
    show own_goW _ _ _ _ _ _ _ _ _ _ (T46.setTop (mkF m 131 #[.val (.int p1), .val (.int p2), .val (.int p3), .val (.int (p2 &&& (255 : Int32))), .val (.int (((p2.toUInt32 >>> ((8 : Int32) &&& 31).toUInt32).toInt32) &&& (255 : Int32))), .val (.int (p3 &&& (255 : Int32))), .val (.int (3 : Int32)), .val (.ref b39)] [(.ref b46), (.ref b46)]))
    refine own_stW (fun _ k => XS.aload X46.here hx rfl (hb hby d1_131) rfl rfl k) ?_
    show own_goW _ _ _ _ _ _ _ _ _ _ (T46.setTop (mkF m 133 #[.val (.int p1), .val (.int p2), .val (.int p3), .val (.int (p2 &&& (255 : Int32))), .val (.int (((p2.toUInt32 >>> ((8 : Int32) &&& 31).toUInt32).toInt32) &&& (255 : Int32))), .val (.int (p3 &&& (255 : Int32))), .val (.int (3 : Int32)), .val (.ref b39)] [(.ref b39), (.ref b46), (.ref b46)]))
    have hws47 : ∀ d ∈ StrChars.Road.words, d.before a0 Z = true := fun d hd => hw d ((by decide +kernel : ∀ d ∈ StrChars.Road.words, d ∈ tables_1) d hd)
    have hlat47 : ∀ c ∈ [(p2 &&& (255 : Int32)), (((p2.toUInt32 >>> ((8 : Int32) &&& 31).toUInt32).toInt32) &&& (255 : Int32)), (p3 &&& (255 : Int32))], ¬ c < 0 ∧ ¬ (255 : Int32) < c := by
      intro c hc
      simp only [List.mem_cons, List.not_mem_nil, or_false] at hc
      rcases hc with rfl | rfl | rfl
      · exact own_p255 _
      · exact own_p255 _
      · exact own_p255 _
    have f48 := (V44.ext E46)
    obtain ⟨v47, _, ⟨T47, L47, k47, n47⟩, -, X47, ⟨Lc47, hQ47, l47, y47, z47⟩, st47⟩ := X46.specialBack hx (y := (⟨"java/lang/String", "<init>", "([C)V"⟩ : MethodName)) rfl hown (mvT hZ (hw _ (List.mem_of_getElem? (i := 11) rfl))) (mvT hZ (hw _ (List.mem_of_getElem? (i := 12) rfl))) (mvT hZ (hw _ (List.mem_of_getElem? (i := 13) rfl))) (by decide) (StrChars.Road.backV (W := 1) hZ hws47 (kI := 4) (hw _ (List.mem_of_getElem? (i := 8) rfl)) (cs := [(p2 &&& (255 : Int32)), (((p2.toUInt32 >>> ((8 : Int32) &&& 31).toUInt32).toInt32) &&& (255 : Int32)), (p3 &&& (255 : Int32))]) (bs := [((p2 &&& (255 : Int32))).toInt8.toInt32, ((((p2.toUInt32 >>> ((8 : Int32) &&& 31).toUInt32).toInt32) &&& (255 : Int32))).toInt8.toInt32, ((p3 &&& (255 : Int32))).toInt8.toInt32]) (n := 3) ge_b46 (own_osz O46) A46 (D46 (Or.inr (hw _ (List.mem_of_getElem? (i := 23) rfl))) (ty := (.array .byte)) (by decide)) (D46 (Or.inr (hw _ (List.mem_of_getElem? (i := 24) rfl))) (ty := .byte) (by decide)) f48 (hS.2.2.2.2.2.2.1.ext O46.2) hS.2.2.2.2.2.2.2 rfl rfl (by decide) (by decide) hlat47 rfl (by decide) (by decide)) (g := (mkF m 133 #[.val (.int p1), .val (.int p2), .val (.int p3), .val (.int (p2 &&& (255 : Int32))), .val (.int (((p2.toUInt32 >>> ((8 : Int32) &&& 31).toUInt32).toInt32) &&& (255 : Int32))), .val (.int (p3 &&& (255 : Int32))), .val (.int (3 : Int32)), .val (.ref b39)] [(.ref b39), (.ref b46), (.ref b46)])) rfl (by rw [hml]; rfl) (Steps.refl _) (a := b46) (argsL := [(.ref b39)]) (rest := [(.ref b46)]) (lenOf own_pd__28_5bC_29V rfl) rfl (by show 2 * 0 + _ ≤ _; exact Nat.le_of_eq rfl) (hb hby d1_133) (fun _ _ => ⟨rfl, e46, (by decide : 2 + 1 ≤ _), (by decide : 7 + 3 ≤ _)⟩)
    dsimp only [Pt.U, Pt.locs, Pt.cells, Pt.slots] at X47 l47 y47 z47 st47 hQ47
    subst l47 y47 z47
    obtain ⟨rfl, Nq47, Kq47, A47, C47, t47, kb47, gt47, szt47, net47, U47, Vt47⟩ := hQ47
    have N47 := Fr.app N44 Nq47
    have ne_b39_t47 : b39 ≠ t47 := (Nat.ne_of_lt (Nat.lt_of_lt_of_le f48.lt szt47))
    have ne_b46_t47 : b46 ≠ t47 := (Nat.ne_of_lt (Nat.lt_of_lt_of_le A46.lt szt47))
    have Ck47 := Ce46.trans (CHr.keep Kq47 (allS (own_safeS hZ.alike A46 (D46 (Or.inr (hw _ (List.mem_of_getElem? (i := 23) rfl))) (ty := (.array .byte)) (by decide))) all0) Ce46.1)
    have hkk47 := Nat.le_trans hke46 Kq47.1
    have O47 := O46.keep Kq47 (allS ge_b46 all0)
    have K47 := K46.trans Kq47 (allS (Or.inr sz_b46) all0)
    refine own_stW (fun _ k => st47.trans k) ?_
    show own_goW _ _ _ _ _ _ _ _ _ _ (T47.setTop (mkF m 136 #[.val (.int p1), .val (.int p2), .val (.int p3), .val (.int (p2 &&& (255 : Int32))), .val (.int (((p2.toUInt32 >>> ((8 : Int32) &&& 31).toUInt32).toInt32) &&& (255 : Int32))), .val (.int (p3 &&& (255 : Int32))), .val (.int (3 : Int32)), .val (.ref b39)] [(.ref b46)]))
    exact own_retAW X47 hx hlk hS0 hkk47 hZ hEL Ck47 rfl hret rfl rfl (hb hby d1_136) (by decide) (by decide) ⟨_, rfl, N47, K47, sz_b46, A47⟩
theorem d6_0 : decode jdk_31_method_10_code 0 = .ok (.aload_n 0, 1) := by decide +kernel
theorem d6_1 : decode jdk_31_method_10_code 1 = .ok (.ifnonnull 11, 3) := by decide +kernel
theorem d6_12 : decode jdk_31_method_10_code 12 = .ok (.aload_n 0, 1) := by decide +kernel
theorem d6_13 : decode jdk_31_method_10_code 13 = .ok (.areturn, 1) := by decide +kernel
theorem own_pn_6 : plainFor (⟨"java/util/Objects", "requireNonNull", "(Ljava/lang/Object;)Ljava/lang/Object;"⟩ : MethodName) = true := plainFor_of_name (show plainName "java/util/Objects" = true by first | (simp [plainName, overriddenIn]; done) | decide +kernel)
theorem own_ef_rmo_req (m : MethodId) (a1 : Addr) : entryFrame m #[(.ref a1)] 1 = mkF m 0 #[.val (.ref a1)] [] := by first | (simp [entryFrame, mkF, argsToLocals, Value.category]; done) | rfl
set_option maxRecDepth 65536 in
set_option maxHeartbeats 40000000 in
theorem rmo_req (l : Launch) (Z : State) (a0 : Array Value) (hw : ∀ d ∈ tables_1, d.before a0 Z = true) (a1 : Addr) (h0 : Heap) (n0 : Nat) (O0 : Old Z n0 h0)  :
    own_Met l Z (⟨"java/util/Objects", "requireNonNull", "(Ljava/lang/Object;)Ljava/lang/Object;"⟩ : MethodName) jdk_31_method_10_code 1 (some (.object "java/lang/Object")) [] ({ frames := 0, cells := 0, slots := 0, locals := 0 } : Room) #[(.ref a1)] h0 (fun v h L => v = some (.ref a1) ∧ Fr n0 L ∧ h = h0) := by
  refine own_body own_pn_6 ?_
  intro p e s m below meth c s₁ hx hby hml hown hnm hret hlk X0 hZ e0
  replace hown : s.vm.findClass "java/util/Objects" = some m.cls := hown
  have N0 := Fr.nil n0
  have K0 := Keep.refl h0 []
  refine own_st (fun _ k => castTop (own_ef_rmo_req m a1) k) ?_
  show own_go _ _ _ _ _ _ _ (s₁.setTop (mkF m 0 #[.val (.ref a1)] []))
  refine own_st (fun _ k => XS.aloadN X0.here hx rfl (hb hby d6_0) rfl rfl k) ?_
  show own_go _ _ _ _ _ _ _ (s₁.setTop (mkF m 1 #[.val (.ref a1)] [(.ref a1)]))
  refine own_st (fun _ k => XS.ifnonnullYes X0.here hx rfl (pc0 := 1) (pc' := 12) rfl (hb hby d6_1) rfl (by decide) (by decide) k) ?_
  show own_go _ _ _ _ _ _ _ (s₁.setTop (mkF m 12 #[.val (.ref a1)] []))
  refine own_st (fun _ k => XS.aloadN X0.here hx rfl (hb hby d6_12) rfl rfl k) ?_
  show own_go _ _ _ _ _ _ _ (s₁.setTop (mkF m 13 #[.val (.ref a1)] [(.ref a1)]))
  exact own_retA X0 hx hlk hret rfl rfl (hb hby d6_13) (by decide) (by decide) (⟨rfl, N0, e0⟩)
theorem d8_0 : decode prog_19_method_6_code 0 = .ok (.aload_n 0, 1) := by decide +kernel
theorem d8_1 : decode prog_19_method_6_code 1 = .ok (.getstatic 3, 3) := by decide +kernel
theorem d8_4 : decode prog_19_method_6_code 4 = .ok (.if_acmp .eq 10, 3) := by decide +kernel
theorem d8_14 : decode prog_19_method_6_code 14 = .ok (.iconst 1, 1) := by decide +kernel
theorem d8_15 : decode prog_19_method_6_code 15 = .ok (.goto 4, 3) := by decide +kernel
theorem d8_19 : decode prog_19_method_6_code 19 = .ok (.ireturn, 1) := by decide +kernel
theorem own_pn_8 : plainFor (⟨"com/example/bridgr/bridgr/spec/Section", "declaresVariables", "()Z"⟩ : MethodName) = true := plainFor_of_name (show plainName "com/example/bridgr/bridgr/spec/Section" = true by first | (simp [plainName, overriddenIn]; done) | decide +kernel)
theorem own_ef_rm_dv_0 (m : MethodId) (c_INPUT : Addr) : entryFrame m #[(.ref c_INPUT)] 1 = mkF m 0 #[.val (.ref c_INPUT)] [] := by first | (simp [entryFrame, mkF, argsToLocals, Value.category]; done) | rfl
set_option maxRecDepth 65536 in
set_option maxHeartbeats 40000000 in
theorem rm_dv_0 (l : Launch) (Z : State) (a0 : Array Value) (hw : ∀ d ∈ tables_1, d.before a0 Z = true) (c_OUTPUT : Addr) (c_INPUT : Addr) (z_COMPACT_STRINGS : Int32) (h0 : Heap) (n0 : Nat) (O0 : Old Z n0 h0) (hS : own_S Z c_OUTPUT c_INPUT z_COMPACT_STRINGS) :
    own_Met l Z (⟨"com/example/bridgr/bridgr/spec/Section", "declaresVariables", "()Z"⟩ : MethodName) prog_19_method_6_code 1 (some .boolean) [] ({ frames := 0, cells := 0, slots := 0, locals := 0 } : Room) #[(.ref c_INPUT)] h0 (fun v h L => v = some (.int (1 : Int32)) ∧ Fr n0 L ∧ h = h0) := by
  refine own_body own_pn_8 ?_
  intro p e s m below meth c s₁ hx hby hml hown hnm hret hlk X0 hZ e0
  replace hown : s.vm.findClass "com/example/bridgr/bridgr/spec/Section" = some m.cls := hown
  have N0 := Fr.nil n0
  have K0 := Keep.refl h0 []
  refine own_st (fun _ k => castTop (own_ef_rm_dv_0 m c_INPUT) k) ?_
  show own_go _ _ _ _ _ _ _ (s₁.setTop (mkF m 0 #[.val (.ref c_INPUT)] []))
  refine own_st (fun _ k => XS.aloadN X0.here hx rfl (hb hby d8_0) rfl rfl k) ?_
  show own_go _ _ _ _ _ _ _ (s₁.setTop (mkF m 1 #[.val (.ref c_INPUT)] [(.ref c_INPUT)]))
  obtain ⟨T49, X49, e49, st49⟩ := getS2 X0 hx hZ hown (host := "") (Or.inl (hw _ (List.mem_of_getElem? (i := 51) rfl))) Via.refl e0 (hS.2.2.1.ext O0.2) (g := (mkF m 1 #[.val (.ref c_INPUT)] [(.ref c_INPUT)])) rfl (hb hby d8_1)
  refine own_st st49 ?_
  show own_go _ _ _ _ _ _ _ (T49.setTop (mkF m 4 #[.val (.ref c_INPUT)] [(.ref c_INPUT), (.ref c_INPUT)]))
  refine own_st (fun _ k => Jvm.RoadKit.acmp (g := (mkF m 4 #[.val (.ref c_INPUT)] [(.ref c_INPUT), (.ref c_INPUT)])) X49 hx rfl rfl rfl (pc0 := 4) (pc' := 14) (same := true) rfl (hb hby d8_4) rfl (decide_eq_true rfl) (by decide) (by decide) k) ?_
  show own_go _ _ _ _ _ _ _ (T49.setTop (mkF m 14 #[.val (.ref c_INPUT)] []))
  refine own_st (fun _ k => XS.iconst X49.here hx rfl (hb hby d8_14) k) ?_
  show own_go _ _ _ _ _ _ _ (T49.setTop (mkF m 15 #[.val (.ref c_INPUT)] [(.int (1 : Int32))]))
  refine own_st (fun _ k => XS.goto X49.here hx rfl (pc0 := 15) (pc' := 19) rfl (hb hby d8_15) (by decide) (by decide) k) ?_
  show own_go _ _ _ _ _ _ _ (T49.setTop (mkF m 19 #[.val (.ref c_INPUT)] [(.int (1 : Int32))]))
  exact own_retN X49 hx hlk (t := .boolean) hret (by simp) rfl (hb hby d8_19) (by decide) (by decide) (⟨rfl, N0, e49⟩)
theorem d7_0 : decode prog_30_method_3_code 0 = .ok (.aload_n 0, 1) := by decide +kernel
theorem d7_1 : decode prog_30_method_3_code 1 = .ok (.invokevirtual 55, 3) := by decide +kernel
theorem d7_4 : decode prog_30_method_3_code 4 = .ok (.ifCond .ne 20, 3) := by decide +kernel
theorem d7_24 : decode prog_30_method_3_code 24 = .ok (.aload_n 0, 1) := by decide +kernel
theorem d7_25 : decode prog_30_method_3_code 25 = .ok (.areturn, 1) := by decide +kernel
theorem own_pn_7 : plainFor (⟨"com/example/bridgr/bridgr/spec/Variable", "checkDeclaration", "(Lcom/example/bridgr/bridgr/spec/Section;)Lcom/example/bridgr/bridgr/spec/Section;"⟩ : MethodName) = true := plainFor_of_name (show plainName "com/example/bridgr/bridgr/spec/Variable" = true by first | (simp [plainName, overriddenIn]; done) | decide +kernel)
theorem own_pd__28_29Z : parseMethodDescriptor "()Z" = some ⟨[], some .boolean⟩ := by decide +kernel
theorem own_ef_rm_cd_0 (m : MethodId) (c_INPUT : Addr) : entryFrame m #[(.ref c_INPUT)] 1 = mkF m 0 #[.val (.ref c_INPUT)] [] := by first | (simp [entryFrame, mkF, argsToLocals, Value.category]; done) | rfl
set_option maxRecDepth 65536 in
set_option maxHeartbeats 40000000 in
theorem rm_cd_0 (l : Launch) (Z : State) (a0 : Array Value) (hw : ∀ d ∈ tables_1, d.before a0 Z = true) (c_OUTPUT : Addr) (c_INPUT : Addr) (z_COMPACT_STRINGS : Int32) (h0 : Heap) (n0 : Nat) (O0 : Old Z n0 h0) (hS : own_S Z c_OUTPUT c_INPUT z_COMPACT_STRINGS) :
    own_Met l Z (⟨"com/example/bridgr/bridgr/spec/Variable", "checkDeclaration", "(Lcom/example/bridgr/bridgr/spec/Section;)Lcom/example/bridgr/bridgr/spec/Section;"⟩ : MethodName) prog_30_method_3_code 1 (some (.object "com/example/bridgr/bridgr/spec/Section")) [] ({ frames := 1, cells := 0, slots := 0, locals := 12 } : Room) #[(.ref c_INPUT)] h0 (fun v h L => v = some (.ref c_INPUT) ∧ Fr n0 L ∧ h = h0) := by
  refine own_body own_pn_7 ?_
  intro p e s m below meth c s₁ hx hby hml hown hnm hret hlk X0 hZ e0
  replace hown : s.vm.findClass "com/example/bridgr/bridgr/spec/Variable" = some m.cls := hown
  have N0 := Fr.nil n0
  have K0 := Keep.refl h0 []
  refine own_st (fun _ k => castTop (own_ef_rm_cd_0 m c_INPUT) k) ?_
  show own_go _ _ _ _ _ _ _ (s₁.setTop (mkF m 0 #[.val (.ref c_INPUT)] []))
  refine own_st (fun _ k => XS.aloadN X0.here hx rfl (hb hby d7_0) rfl rfl k) ?_
  show own_go _ _ _ _ _ _ _ (s₁.setTop (mkF m 1 #[.val (.ref c_INPUT)] [(.ref c_INPUT)]))
  obtain ⟨v50, T50, L50, X50, hQ50, st50⟩ := own_callV X0 hx hZ (argsL := []) (rest := []) (rm_dv_0 l Z a0 hw c_OUTPUT c_INPUT z_COMPACT_STRINGS h0 n0 O0 hS) hown (hw _ (List.mem_of_getElem? (i := 46) rfl)) (hw _ (List.mem_of_getElem? (i := 47) rfl)) (notFace_of_selects (args := #[]) (mvT hZ (hw _ (List.mem_of_getElem? (i := 49) rfl)))) (hw _ (List.mem_of_getElem? (i := 49) rfl)) (hw _ (List.mem_of_getElem? (i := 48) rfl)) (hw _ (List.mem_of_getElem? (i := 1) rfl)) (hw _ (List.mem_of_getElem? (i := 50) rfl)) (by decide) e0 (hS.2.2.2.1.ext O0.2) (g := (mkF m 1 #[.val (.ref c_INPUT)] [(.ref c_INPUT)])) rfl (by rw [hml]; rfl) (lenOf own_pd__28_29Z rfl) rfl (W := 0) (by show 2 * 0 + _ ≤ _; exact Nat.le_of_eq rfl) (hb hby d7_1) (by decide) (by decide) (by decide) (by decide)
  obtain ⟨rfl, Nq50, eq50⟩ := hQ50
  have N50 := Fr.app N0 Nq50
  refine own_st st50 ?_
  show own_go _ _ _ _ _ _ _ (T50.setTop (mkF m 4 #[.val (.ref c_INPUT)] [(.int (1 : Int32))]))
  refine own_st (fun _ k => XS.ifYes X50.here hx rfl (pc0 := 4) (pc' := 24) rfl (hb hby d7_4) rfl (by decide) (by decide) (by decide) k) ?_
  show own_go _ _ _ _ _ _ _ (T50.setTop (mkF m 24 #[.val (.ref c_INPUT)] []))
  refine own_st (fun _ k => XS.aloadN X50.here hx rfl (hb hby d7_24) rfl rfl k) ?_
  show own_go _ _ _ _ _ _ _ (T50.setTop (mkF m 25 #[.val (.ref c_INPUT)] [(.ref c_INPUT)]))
  exact own_retA X50 hx hlk hret rfl rfl (hb hby d7_25) (by decide) (by decide) (⟨rfl, N50, eq50⟩)
theorem d5_0 : decode prog_30_method_1_code 0 = .ok (.aload_n 0, 1) := by decide +kernel
theorem d5_1 : decode prog_30_method_1_code 1 = .ok (.invokespecial 1, 3) := by decide +kernel
theorem d5_4 : decode prog_30_method_1_code 4 = .ok (.aload_n 0, 1) := by decide +kernel
theorem d5_5 : decode prog_30_method_1_code 5 = .ok (.aload_n 1, 1) := by decide +kernel
theorem d5_6 : decode prog_30_method_1_code 6 = .ok (.invokestatic 7, 3) := by decide +kernel
theorem d5_9 : decode prog_30_method_1_code 9 = .ok (.checkcast 13, 3) := by decide +kernel
theorem d5_12 : decode prog_30_method_1_code 12 = .ok (.putfield 15, 3) := by decide +kernel
theorem d5_15 : decode prog_30_method_1_code 15 = .ok (.aload_n 0, 1) := by decide +kernel
theorem d5_16 : decode prog_30_method_1_code 16 = .ok (.aload_n 2, 1) := by decide +kernel
theorem d5_17 : decode prog_30_method_1_code 17 = .ok (.invokestatic 21, 3) := by decide +kernel
theorem d5_20 : decode prog_30_method_1_code 20 = .ok (.putfield 25, 3) := by decide +kernel
theorem d5_23 : decode prog_30_method_1_code 23 = .ok (.aload_n 0, 1) := by decide +kernel
theorem d5_24 : decode prog_30_method_1_code 24 = .ok (.aconst_null, 1) := by decide +kernel
theorem d5_25 : decode prog_30_method_1_code 25 = .ok (.putfield 29, 3) := by decide +kernel
theorem d5_28 : decode prog_30_method_1_code 28 = .ok (.aload_n 0, 1) := by decide +kernel
theorem d5_29 : decode prog_30_method_1_code 29 = .ok (.aconst_null, 1) := by decide +kernel
theorem d5_30 : decode prog_30_method_1_code 30 = .ok (.putfield 33, 3) := by decide +kernel
theorem d5_33 : decode prog_30_method_1_code 33 = .ok (.return_, 1) := by decide +kernel
theorem own_pn_5 : plainFor (⟨"com/example/bridgr/bridgr/spec/Variable", "<init>", "(Ljava/lang/String;Lcom/example/bridgr/bridgr/spec/Section;)V"⟩ : MethodName) = true := plainFor_of_name (show plainName "com/example/bridgr/bridgr/spec/Variable" = true by first | (simp [plainName, overriddenIn]; done) | decide +kernel)
theorem own_pd__28Ljava_2flang_2fObject_3b_29Ljava_2flang_2fObject_3b : parseMethodDescriptor "(Ljava/lang/Object;)Ljava/lang/Object;" = some ⟨[(.object "java/lang/Object")], some (.object "java/lang/Object")⟩ := by decide +kernel
theorem own_pd__28Lcom_2fexample_2fbridgr_2fbridgr_2fspec_2fSection_3b_29Lcom_2fexample_2fbridgr_2fbridgr_2fspec_2fSection_3b : parseMethodDescriptor "(Lcom/example/bridgr/bridgr/spec/Section;)Lcom/example/bridgr/bridgr/spec/Section;" = some ⟨[(.object "com/example/bridgr/bridgr/spec/Section")], some (.object "com/example/bridgr/bridgr/spec/Section")⟩ := by decide +kernel
theorem own_ef_rm_vi_0 (m : MethodId) (a1 : Addr) (a2 : Addr) (c_INPUT : Addr) : entryFrame m #[(.ref a1), (.ref a2), (.ref c_INPUT)] 3 = mkF m 0 #[.val (.ref a1), .val (.ref a2), .val (.ref c_INPUT)] [] := by first | (simp [entryFrame, mkF, argsToLocals, Value.category]; done) | rfl
set_option maxRecDepth 65536 in
set_option maxHeartbeats 40000000 in
theorem rm_vi_0 (l : Launch) (Z : State) (a0 : Array Value) (hw : ∀ d ∈ tables_1, d.before a0 Z = true) (a1 a2 : Addr) (c_OUTPUT : Addr) (c_INPUT : Addr) (z_COMPACT_STRINGS : Int32) (h0 : Heap) (n0 : Nat) (O0 : Old Z n0 h0) (hS : own_S Z c_OUTPUT c_INPUT z_COMPACT_STRINGS) (ge_a1 : n0 ≤ a1) (E_a1 : Exa Z h0 a1 "com/example/bridgr/bridgr/spec/Variable") (F_a1_name : Fld Z h0 a1 "com/example/bridgr/bridgr/spec/Variable" "name" "Ljava/lang/String;" .null) (F_a1_declaration : Fld Z h0 a1 "com/example/bridgr/bridgr/spec/Variable" "declaration" "Lcom/example/bridgr/bridgr/spec/Section;" .null) (F_a1_lowest : Fld Z h0 a1 "com/example/bridgr/bridgr/spec/Variable" "lowest" "Ljava/math/BigInteger;" .null) (F_a1_highest : Fld Z h0 a1 "com/example/bridgr/bridgr/spec/Variable" "highest" "Ljava/math/BigInteger;" .null) (E_a2 : Exa Z h0 a2 "java/lang/String") :
    own_Met l Z (⟨"com/example/bridgr/bridgr/spec/Variable", "<init>", "(Ljava/lang/String;Lcom/example/bridgr/bridgr/spec/Section;)V"⟩ : MethodName) prog_30_method_1_code 3 none [] ({ frames := 2, cells := 0, slots := 0, locals := 30 } : Room) #[(.ref a1), (.ref a2), (.ref c_INPUT)] h0 (fun v h L => v = none ∧ Fr n0 L ∧ Keep h0 h [a1] ∧ Fld Z h a1 "com/example/bridgr/bridgr/spec/Variable" "lowest" "Ljava/math/BigInteger;" .null ∧ Fld Z h a1 "com/example/bridgr/bridgr/spec/Variable" "highest" "Ljava/math/BigInteger;" .null) := by
  refine own_body own_pn_5 ?_
  intro p e s m below meth c s₁ hx hby hml hown hnm hret hlk X0 hZ e0
  replace hown : s.vm.findClass "com/example/bridgr/bridgr/spec/Variable" = some m.cls := hown
  have N0 := Fr.nil n0
  have K0 := Keep.refl h0 [a1]
  refine own_st (fun _ k => castTop (own_ef_rm_vi_0 m a1 a2 c_INPUT) k) ?_
  show own_go _ _ _ _ _ _ _ (s₁.setTop (mkF m 0 #[.val (.ref a1), .val (.ref a2), .val (.ref c_INPUT)] []))
  refine own_st (fun _ k => XS.aloadN X0.here hx rfl (hb hby d5_0) rfl rfl k) ?_
  show own_go _ _ _ _ _ _ _ (s₁.setTop (mkF m 1 #[.val (.ref a1), .val (.ref a2), .val (.ref c_INPUT)] [(.ref a1)]))
  obtain ⟨T52, X52, e52, st52⟩ := initO X0 hx hZ hown (hw _ (List.mem_of_getElem? (i := 35) rfl)) (hw _ (List.mem_of_getElem? (i := 19) rfl)) (hw _ (List.mem_of_getElem? (i := 20) rfl)) e0 (g := (mkF m 1 #[.val (.ref a1), .val (.ref a2), .val (.ref c_INPUT)] [(.ref a1)])) rfl (by rw [hml]; rfl) rfl (hb hby d5_1) (by decide) (W := 0) (by show 2 * 0 + _ ≤ _; exact Nat.le_of_eq rfl) (by decide)
  refine own_st st52 ?_
  show own_go _ _ _ _ _ _ _ (T52.setTop (mkF m 4 #[.val (.ref a1), .val (.ref a2), .val (.ref c_INPUT)] []))
  refine own_st (fun _ k => XS.aloadN X52.here hx rfl (hb hby d5_4) rfl rfl k) ?_
  show own_go _ _ _ _ _ _ _ (T52.setTop (mkF m 5 #[.val (.ref a1), .val (.ref a2), .val (.ref c_INPUT)] [(.ref a1)]))
  refine own_st (fun _ k => XS.aloadN X52.here hx rfl (hb hby d5_5) rfl rfl k) ?_
  show own_go _ _ _ _ _ _ _ (T52.setTop (mkF m 6 #[.val (.ref a1), .val (.ref a2), .val (.ref c_INPUT)] [(.ref a2), (.ref a1)]))
  obtain ⟨v53, T53, L53, X53, hQ53, st53⟩ := own_callS X52 hx hZ (argsL := [(.ref a2)]) (rest := [(.ref a1)]) (rmo_req l Z a0 hw a2 h0 n0 O0) hown (hw _ (List.mem_of_getElem? (i := 36) rfl)) (hw _ (List.mem_of_getElem? (i := 37) rfl)) (hw _ (List.mem_of_getElem? (i := 38) rfl)) (hw _ (List.mem_of_getElem? (i := 39) rfl)) (by decide) e52 (g := (mkF m 6 #[.val (.ref a1), .val (.ref a2), .val (.ref c_INPUT)] [(.ref a2), (.ref a1)])) rfl (by rw [hml]; rfl) (lenOf own_pd__28Ljava_2flang_2fObject_3b_29Ljava_2flang_2fObject_3b rfl) rfl (W := 1) (by show 2 * 0 + _ ≤ _; exact Nat.le_of_eq rfl) (hb hby d5_6) (by decide) (by decide) (by decide) (by decide)
  obtain ⟨rfl, Nq53, eq53⟩ := hQ53
  have N53 := Fr.app N0 Nq53
  refine own_st st53 ?_
  show own_go _ _ _ _ _ _ _ (T53.setTop (mkF m 9 #[.val (.ref a1), .val (.ref a2), .val (.ref c_INPUT)] [(.ref a2), (.ref a1)]))
  obtain ⟨T54, X54, e54, st54⟩ := castY X53 hx hZ hown (hw _ (List.mem_of_getElem? (i := 40) rfl)) eq53 (Ins.self E_a2) (g := (mkF m 9 #[.val (.ref a1), .val (.ref a2), .val (.ref c_INPUT)] [(.ref a2), (.ref a1)])) rfl rfl (hb hby d5_9)
  refine own_st st54 ?_
  show own_go _ _ _ _ _ _ _ (T54.setTop (mkF m 12 #[.val (.ref a1), .val (.ref a2), .val (.ref c_INPUT)] [(.ref a2), (.ref a1)]))
  obtain ⟨T55, h55, X55, e55, W55, st55⟩ := putF X54 hx hZ hown (host := "") (Or.inl (hw _ (List.mem_of_getElem? (i := 41) rfl))) Via.refl e54 F_a1_name E_a1 (Or.inr ⟨(hw _ (List.mem_of_getElem? (i := 42) rfl)), rfl, hnm⟩) (hw _ (List.mem_of_getElem? (i := 30) rfl)) (ty := (.object "java/lang/String")) (by decide) rfl rfl (g := (mkF m 12 #[.val (.ref a1), .val (.ref a2), .val (.ref c_INPUT)] [(.ref a2), (.ref a1)])) rfl rfl (hb hby d5_12)
  have N55 := Fr.snoc X55 N53 ge_a1
  have O56 := O0.wr W55 ge_a1
  have K56 := K0.wr W55 (Or.inl (List.mem_of_getElem? (i := 0) rfl))
  have F55 := F_a1_name.same W55
  refine own_st st55 ?_
  show own_go _ _ _ _ _ _ _ (T55.setTop (mkF m 15 #[.val (.ref a1), .val (.ref a2), .val (.ref c_INPUT)] []))
  refine own_st (fun _ k => XS.aloadN X55.here hx rfl (hb hby d5_15) rfl rfl k) ?_
  show own_go _ _ _ _ _ _ _ (T55.setTop (mkF m 16 #[.val (.ref a1), .val (.ref a2), .val (.ref c_INPUT)] [(.ref a1)]))
  refine own_st (fun _ k => XS.aloadN X55.here hx rfl (hb hby d5_16) rfl rfl k) ?_
  show own_go _ _ _ _ _ _ _ (T55.setTop (mkF m 17 #[.val (.ref a1), .val (.ref a2), .val (.ref c_INPUT)] [(.ref c_INPUT), (.ref a1)]))
  obtain ⟨v57, T57, L57, X57, hQ57, st57⟩ := own_callS X55 hx hZ (argsL := [(.ref c_INPUT)]) (rest := [(.ref a1)]) (rm_cd_0 l Z a0 hw c_OUTPUT c_INPUT z_COMPACT_STRINGS h55 n0 O56 hS) hown (hw _ (List.mem_of_getElem? (i := 43) rfl)) (hw _ (List.mem_of_getElem? (i := 44) rfl)) (hw _ (List.mem_of_getElem? (i := 31) rfl)) (hw _ (List.mem_of_getElem? (i := 45) rfl)) (by decide) e55 (g := (mkF m 17 #[.val (.ref a1), .val (.ref a2), .val (.ref c_INPUT)] [(.ref c_INPUT), (.ref a1)])) rfl (by rw [hml]; rfl) (lenOf own_pd__28Lcom_2fexample_2fbridgr_2fbridgr_2fspec_2fSection_3b_29Lcom_2fexample_2fbridgr_2fbridgr_2fspec_2fSection_3b rfl) rfl (W := 1) (by show 2 * 0 + _ ≤ _; exact Nat.le_of_eq rfl) (hb hby d5_17) (by decide) (by decide) (by decide) (by decide)
  obtain ⟨rfl, Nq57, eq57⟩ := hQ57
  have N57 := Fr.app N55 Nq57
  refine own_st st57 ?_
  show own_go _ _ _ _ _ _ _ (T57.setTop (mkF m 20 #[.val (.ref a1), .val (.ref a2), .val (.ref c_INPUT)] [(.ref c_INPUT), (.ref a1)]))
  have f59 := (F_a1_declaration.other W55 (Or.inr (slot_ne (Or.inr (hw _ (List.mem_of_getElem? (i := 55) rfl))) (Or.inr (hw _ (List.mem_of_getElem? (i := 42) rfl))) (by decide) (t := (.object "com/example/bridgr/bridgr/spec/Section")) (t' := (.object "java/lang/String")) (by decide) (by decide))))
  have f60 := (E_a1.wr W55)
  obtain ⟨T58, h58, X58, e58, W58, st58⟩ := putF X57 hx hZ hown (host := "") (Or.inl (hw _ (List.mem_of_getElem? (i := 54) rfl))) Via.refl eq57 f59 f60 (Or.inr ⟨(hw _ (List.mem_of_getElem? (i := 55) rfl)), rfl, hnm⟩) (hw _ (List.mem_of_getElem? (i := 30) rfl)) (ty := (.object "com/example/bridgr/bridgr/spec/Section")) (by decide) rfl rfl (g := (mkF m 20 #[.val (.ref a1), .val (.ref a2), .val (.ref c_INPUT)] [(.ref c_INPUT), (.ref a1)])) rfl rfl (hb hby d5_20)
  have N58 := Fr.snoc X58 N57 ge_a1
  have O61 := O56.wr W58 ge_a1
  have K61 := K56.wr W58 (Or.inl (List.mem_of_getElem? (i := 0) rfl))
  have F58 := f59.same W58
  refine own_st st58 ?_
  show own_go _ _ _ _ _ _ _ (T58.setTop (mkF m 23 #[.val (.ref a1), .val (.ref a2), .val (.ref c_INPUT)] []))
  refine own_st (fun _ k => XS.aloadN X58.here hx rfl (hb hby d5_23) rfl rfl k) ?_
  show own_go _ _ _ _ _ _ _ (T58.setTop (mkF m 24 #[.val (.ref a1), .val (.ref a2), .val (.ref c_INPUT)] [(.ref a1)]))
  refine own_st (fun _ k => XS.aconstNull X58.here hx rfl (hb hby d5_24) k) ?_
  show own_go _ _ _ _ _ _ _ (T58.setTop (mkF m 25 #[.val (.ref a1), .val (.ref a2), .val (.ref c_INPUT)] [.null, (.ref a1)]))
  have f63 := ((F_a1_lowest.other W55 (Or.inr (slot_ne (Or.inr (hw _ (List.mem_of_getElem? (i := 57) rfl))) (Or.inr (hw _ (List.mem_of_getElem? (i := 42) rfl))) (by decide) (t := (.object "java/math/BigInteger")) (t' := (.object "java/lang/String")) (by decide) (by decide)))).other W58 (Or.inr (slot_ne (Or.inr (hw _ (List.mem_of_getElem? (i := 57) rfl))) (Or.inr (hw _ (List.mem_of_getElem? (i := 55) rfl))) (by decide) (t := (.object "java/math/BigInteger")) (t' := (.object "com/example/bridgr/bridgr/spec/Section")) (by decide) (by decide))))
  have f64 := (f60.wr W58)
  obtain ⟨T62, h62, X62, e62, W62, st62⟩ := putF X58 hx hZ hown (host := "") (Or.inl (hw _ (List.mem_of_getElem? (i := 56) rfl))) Via.refl e58 f63 f64 (Or.inr ⟨(hw _ (List.mem_of_getElem? (i := 57) rfl)), rfl, hnm⟩) (hw _ (List.mem_of_getElem? (i := 30) rfl)) (ty := (.object "java/math/BigInteger")) (by decide) rfl rfl (g := (mkF m 25 #[.val (.ref a1), .val (.ref a2), .val (.ref c_INPUT)] [.null, (.ref a1)])) rfl rfl (hb hby d5_25)
  have N62 := Fr.snoc X62 N58 ge_a1
  have O65 := O61.wr W62 ge_a1
  have K65 := K61.wr W62 (Or.inl (List.mem_of_getElem? (i := 0) rfl))
  have F62 := f63.same W62
  refine own_st st62 ?_
  show own_go _ _ _ _ _ _ _ (T62.setTop (mkF m 28 #[.val (.ref a1), .val (.ref a2), .val (.ref c_INPUT)] []))
  refine own_st (fun _ k => XS.aloadN X62.here hx rfl (hb hby d5_28) rfl rfl k) ?_
  show own_go _ _ _ _ _ _ _ (T62.setTop (mkF m 29 #[.val (.ref a1), .val (.ref a2), .val (.ref c_INPUT)] [(.ref a1)]))
  refine own_st (fun _ k => XS.aconstNull X62.here hx rfl (hb hby d5_29) k) ?_
  show own_go _ _ _ _ _ _ _ (T62.setTop (mkF m 30 #[.val (.ref a1), .val (.ref a2), .val (.ref c_INPUT)] [.null, (.ref a1)]))
  have f67 := (((F_a1_highest.other W55 (Or.inr (slot_ne (Or.inr (hw _ (List.mem_of_getElem? (i := 59) rfl))) (Or.inr (hw _ (List.mem_of_getElem? (i := 42) rfl))) (by decide) (t := (.object "java/math/BigInteger")) (t' := (.object "java/lang/String")) (by decide) (by decide)))).other W58 (Or.inr (slot_ne (Or.inr (hw _ (List.mem_of_getElem? (i := 59) rfl))) (Or.inr (hw _ (List.mem_of_getElem? (i := 55) rfl))) (by decide) (t := (.object "java/math/BigInteger")) (t' := (.object "com/example/bridgr/bridgr/spec/Section")) (by decide) (by decide)))).other W62 (Or.inr (slot_ne (Or.inr (hw _ (List.mem_of_getElem? (i := 59) rfl))) (Or.inr (hw _ (List.mem_of_getElem? (i := 57) rfl))) (by decide) (t := (.object "java/math/BigInteger")) (t' := (.object "java/math/BigInteger")) (by decide) (by decide))))
  have f68 := (f64.wr W62)
  obtain ⟨T66, h66, X66, e66, W66, st66⟩ := putF X62 hx hZ hown (host := "") (Or.inl (hw _ (List.mem_of_getElem? (i := 58) rfl))) Via.refl e62 f67 f68 (Or.inr ⟨(hw _ (List.mem_of_getElem? (i := 59) rfl)), rfl, hnm⟩) (hw _ (List.mem_of_getElem? (i := 30) rfl)) (ty := (.object "java/math/BigInteger")) (by decide) rfl rfl (g := (mkF m 30 #[.val (.ref a1), .val (.ref a2), .val (.ref c_INPUT)] [.null, (.ref a1)])) rfl rfl (hb hby d5_30)
  have N66 := Fr.snoc X66 N62 ge_a1
  have O69 := O65.wr W66 ge_a1
  have K69 := K65.wr W66 (Or.inl (List.mem_of_getElem? (i := 0) rfl))
  have F66 := f67.same W66
  refine own_st st66 ?_
  show own_go _ _ _ _ _ _ _ (T66.setTop (mkF m 33 #[.val (.ref a1), .val (.ref a2), .val (.ref c_INPUT)] []))
  have f70 := (F62.other W66 (Or.inr (slot_ne (Or.inr (hw _ (List.mem_of_getElem? (i := 57) rfl))) (Or.inr (hw _ (List.mem_of_getElem? (i := 59) rfl))) (by decide) (t := (.object "java/math/BigInteger")) (t' := (.object "java/math/BigInteger")) (by decide) (by decide))))
  exact own_ret0 X66 hx hlk hret (hb hby d5_33) (by decide) (by decide) (by rw [e66]; exact ⟨rfl, N66, K69, f70, F66⟩)
theorem d8_7 : decode prog_19_method_6_code 7 = .ok (.aload_n 0, 1) := by decide +kernel
theorem d8_8 : decode prog_19_method_6_code 8 = .ok (.getstatic 7, 3) := by decide +kernel
theorem d8_11 : decode prog_19_method_6_code 11 = .ok (.if_acmp .ne 7, 3) := by decide +kernel
theorem own_ef_rm_dv_1 (m : MethodId) (c_OUTPUT : Addr) : entryFrame m #[(.ref c_OUTPUT)] 1 = mkF m 0 #[.val (.ref c_OUTPUT)] [] := by first | (simp [entryFrame, mkF, argsToLocals, Value.category]; done) | rfl
set_option maxRecDepth 65536 in
set_option maxHeartbeats 40000000 in
theorem rm_dv_1 (l : Launch) (Z : State) (a0 : Array Value) (hw : ∀ d ∈ tables_1, d.before a0 Z = true) (c_OUTPUT : Addr) (c_INPUT : Addr) (z_COMPACT_STRINGS : Int32) (h0 : Heap) (n0 : Nat) (O0 : Old Z n0 h0) (hS : own_S Z c_OUTPUT c_INPUT z_COMPACT_STRINGS) :
    own_Met l Z (⟨"com/example/bridgr/bridgr/spec/Section", "declaresVariables", "()Z"⟩ : MethodName) prog_19_method_6_code 1 (some .boolean) [] ({ frames := 0, cells := 0, slots := 0, locals := 0 } : Room) #[(.ref c_OUTPUT)] h0 (fun v h L => v = some (.int (1 : Int32)) ∧ Fr n0 L ∧ h = h0) := by
  refine own_body own_pn_8 ?_
  intro p e s m below meth c s₁ hx hby hml hown hnm hret hlk X0 hZ e0
  replace hown : s.vm.findClass "com/example/bridgr/bridgr/spec/Section" = some m.cls := hown
  have N0 := Fr.nil n0
  have K0 := Keep.refl h0 []
  refine own_st (fun _ k => castTop (own_ef_rm_dv_1 m c_OUTPUT) k) ?_
  show own_go _ _ _ _ _ _ _ (s₁.setTop (mkF m 0 #[.val (.ref c_OUTPUT)] []))
  refine own_st (fun _ k => XS.aloadN X0.here hx rfl (hb hby d8_0) rfl rfl k) ?_
  show own_go _ _ _ _ _ _ _ (s₁.setTop (mkF m 1 #[.val (.ref c_OUTPUT)] [(.ref c_OUTPUT)]))
  obtain ⟨T71, X71, e71, st71⟩ := getS2 X0 hx hZ hown (host := "") (Or.inl (hw _ (List.mem_of_getElem? (i := 51) rfl))) Via.refl e0 (hS.2.2.1.ext O0.2) (g := (mkF m 1 #[.val (.ref c_OUTPUT)] [(.ref c_OUTPUT)])) rfl (hb hby d8_1)
  refine own_st st71 ?_
  show own_go _ _ _ _ _ _ _ (T71.setTop (mkF m 4 #[.val (.ref c_OUTPUT)] [(.ref c_INPUT), (.ref c_OUTPUT)]))
  refine own_st (fun _ k => Jvm.RoadKit.acmp (g := (mkF m 4 #[.val (.ref c_OUTPUT)] [(.ref c_INPUT), (.ref c_OUTPUT)])) X71 hx rfl rfl rfl (pc0 := 4) (pc' := 7) (same := false) rfl (hb hby d8_4) rfl (decide_eq_false fun q => (own_ne hS.2.2.2.2.1 hS.2.2.2.2.2.1 (by decide)) (Value.ref.inj q)) (by decide) (by decide) k) ?_
  show own_go _ _ _ _ _ _ _ (T71.setTop (mkF m 7 #[.val (.ref c_OUTPUT)] []))
  refine own_st (fun _ k => XS.aloadN X71.here hx rfl (hb hby d8_7) rfl rfl k) ?_
  show own_go _ _ _ _ _ _ _ (T71.setTop (mkF m 8 #[.val (.ref c_OUTPUT)] [(.ref c_OUTPUT)]))
  obtain ⟨T72, X72, e72, st72⟩ := getS2 X71 hx hZ hown (host := "") (Or.inl (hw _ (List.mem_of_getElem? (i := 53) rfl))) Via.refl e71 (hS.1.ext O0.2) (g := (mkF m 8 #[.val (.ref c_OUTPUT)] [(.ref c_OUTPUT)])) rfl (hb hby d8_8)
  refine own_st st72 ?_
  show own_go _ _ _ _ _ _ _ (T72.setTop (mkF m 11 #[.val (.ref c_OUTPUT)] [(.ref c_OUTPUT), (.ref c_OUTPUT)]))
  refine own_st (fun _ k => Jvm.RoadKit.acmp (g := (mkF m 11 #[.val (.ref c_OUTPUT)] [(.ref c_OUTPUT), (.ref c_OUTPUT)])) X72 hx rfl rfl rfl (pc0 := 11) (pc' := 14) (same := true) rfl (hb hby d8_11) rfl (decide_eq_true rfl) (by decide) (by decide) k) ?_
  show own_go _ _ _ _ _ _ _ (T72.setTop (mkF m 14 #[.val (.ref c_OUTPUT)] []))
  refine own_st (fun _ k => XS.iconst X72.here hx rfl (hb hby d8_14) k) ?_
  show own_go _ _ _ _ _ _ _ (T72.setTop (mkF m 15 #[.val (.ref c_OUTPUT)] [(.int (1 : Int32))]))
  refine own_st (fun _ k => XS.goto X72.here hx rfl (pc0 := 15) (pc' := 19) rfl (hb hby d8_15) (by decide) (by decide) k) ?_
  show own_go _ _ _ _ _ _ _ (T72.setTop (mkF m 19 #[.val (.ref c_OUTPUT)] [(.int (1 : Int32))]))
  exact own_retN X72 hx hlk (t := .boolean) hret (by simp) rfl (hb hby d8_19) (by decide) (by decide) (⟨rfl, N0, e72⟩)
theorem own_ef_rm_cd_1 (m : MethodId) (c_OUTPUT : Addr) : entryFrame m #[(.ref c_OUTPUT)] 1 = mkF m 0 #[.val (.ref c_OUTPUT)] [] := by first | (simp [entryFrame, mkF, argsToLocals, Value.category]; done) | rfl
set_option maxRecDepth 65536 in
set_option maxHeartbeats 40000000 in
theorem rm_cd_1 (l : Launch) (Z : State) (a0 : Array Value) (hw : ∀ d ∈ tables_1, d.before a0 Z = true) (c_OUTPUT : Addr) (c_INPUT : Addr) (z_COMPACT_STRINGS : Int32) (h0 : Heap) (n0 : Nat) (O0 : Old Z n0 h0) (hS : own_S Z c_OUTPUT c_INPUT z_COMPACT_STRINGS) :
    own_Met l Z (⟨"com/example/bridgr/bridgr/spec/Variable", "checkDeclaration", "(Lcom/example/bridgr/bridgr/spec/Section;)Lcom/example/bridgr/bridgr/spec/Section;"⟩ : MethodName) prog_30_method_3_code 1 (some (.object "com/example/bridgr/bridgr/spec/Section")) [] ({ frames := 1, cells := 0, slots := 0, locals := 12 } : Room) #[(.ref c_OUTPUT)] h0 (fun v h L => v = some (.ref c_OUTPUT) ∧ Fr n0 L ∧ h = h0) := by
  refine own_body own_pn_7 ?_
  intro p e s m below meth c s₁ hx hby hml hown hnm hret hlk X0 hZ e0
  replace hown : s.vm.findClass "com/example/bridgr/bridgr/spec/Variable" = some m.cls := hown
  have N0 := Fr.nil n0
  have K0 := Keep.refl h0 []
  refine own_st (fun _ k => castTop (own_ef_rm_cd_1 m c_OUTPUT) k) ?_
  show own_go _ _ _ _ _ _ _ (s₁.setTop (mkF m 0 #[.val (.ref c_OUTPUT)] []))
  refine own_st (fun _ k => XS.aloadN X0.here hx rfl (hb hby d7_0) rfl rfl k) ?_
  show own_go _ _ _ _ _ _ _ (s₁.setTop (mkF m 1 #[.val (.ref c_OUTPUT)] [(.ref c_OUTPUT)]))
  obtain ⟨v73, T73, L73, X73, hQ73, st73⟩ := own_callV X0 hx hZ (argsL := []) (rest := []) (rm_dv_1 l Z a0 hw c_OUTPUT c_INPUT z_COMPACT_STRINGS h0 n0 O0 hS) hown (hw _ (List.mem_of_getElem? (i := 46) rfl)) (hw _ (List.mem_of_getElem? (i := 47) rfl)) (notFace_of_selects (args := #[]) (mvT hZ (hw _ (List.mem_of_getElem? (i := 49) rfl)))) (hw _ (List.mem_of_getElem? (i := 49) rfl)) (hw _ (List.mem_of_getElem? (i := 48) rfl)) (hw _ (List.mem_of_getElem? (i := 1) rfl)) (hw _ (List.mem_of_getElem? (i := 50) rfl)) (by decide) e0 (hS.2.1.ext O0.2) (g := (mkF m 1 #[.val (.ref c_OUTPUT)] [(.ref c_OUTPUT)])) rfl (by rw [hml]; rfl) (lenOf own_pd__28_29Z rfl) rfl (W := 0) (by show 2 * 0 + _ ≤ _; exact Nat.le_of_eq rfl) (hb hby d7_1) (by decide) (by decide) (by decide) (by decide)
  obtain ⟨rfl, Nq73, eq73⟩ := hQ73
  have N73 := Fr.app N0 Nq73
  refine own_st st73 ?_
  show own_go _ _ _ _ _ _ _ (T73.setTop (mkF m 4 #[.val (.ref c_OUTPUT)] [(.int (1 : Int32))]))
  refine own_st (fun _ k => XS.ifYes X73.here hx rfl (pc0 := 4) (pc' := 24) rfl (hb hby d7_4) rfl (by decide) (by decide) (by decide) k) ?_
  show own_go _ _ _ _ _ _ _ (T73.setTop (mkF m 24 #[.val (.ref c_OUTPUT)] []))
  refine own_st (fun _ k => XS.aloadN X73.here hx rfl (hb hby d7_24) rfl rfl k) ?_
  show own_go _ _ _ _ _ _ _ (T73.setTop (mkF m 25 #[.val (.ref c_OUTPUT)] [(.ref c_OUTPUT)]))
  exact own_retA X73 hx hlk hret rfl rfl (hb hby d7_25) (by decide) (by decide) (⟨rfl, N73, eq73⟩)
theorem own_ef_rm_vi_1 (m : MethodId) (a1 : Addr) (a2 : Addr) (c_OUTPUT : Addr) : entryFrame m #[(.ref a1), (.ref a2), (.ref c_OUTPUT)] 3 = mkF m 0 #[.val (.ref a1), .val (.ref a2), .val (.ref c_OUTPUT)] [] := by first | (simp [entryFrame, mkF, argsToLocals, Value.category]; done) | rfl
set_option maxRecDepth 65536 in
set_option maxHeartbeats 40000000 in
theorem rm_vi_1 (l : Launch) (Z : State) (a0 : Array Value) (hw : ∀ d ∈ tables_1, d.before a0 Z = true) (a1 a2 : Addr) (c_OUTPUT : Addr) (c_INPUT : Addr) (z_COMPACT_STRINGS : Int32) (h0 : Heap) (n0 : Nat) (O0 : Old Z n0 h0) (hS : own_S Z c_OUTPUT c_INPUT z_COMPACT_STRINGS) (ge_a1 : n0 ≤ a1) (E_a1 : Exa Z h0 a1 "com/example/bridgr/bridgr/spec/Variable") (F_a1_name : Fld Z h0 a1 "com/example/bridgr/bridgr/spec/Variable" "name" "Ljava/lang/String;" .null) (F_a1_declaration : Fld Z h0 a1 "com/example/bridgr/bridgr/spec/Variable" "declaration" "Lcom/example/bridgr/bridgr/spec/Section;" .null) (F_a1_lowest : Fld Z h0 a1 "com/example/bridgr/bridgr/spec/Variable" "lowest" "Ljava/math/BigInteger;" .null) (F_a1_highest : Fld Z h0 a1 "com/example/bridgr/bridgr/spec/Variable" "highest" "Ljava/math/BigInteger;" .null) (E_a2 : Exa Z h0 a2 "java/lang/String") :
    own_Met l Z (⟨"com/example/bridgr/bridgr/spec/Variable", "<init>", "(Ljava/lang/String;Lcom/example/bridgr/bridgr/spec/Section;)V"⟩ : MethodName) prog_30_method_1_code 3 none [] ({ frames := 2, cells := 0, slots := 0, locals := 30 } : Room) #[(.ref a1), (.ref a2), (.ref c_OUTPUT)] h0 (fun v h L => v = none ∧ Fr n0 L ∧ Keep h0 h [a1] ∧ Fld Z h a1 "com/example/bridgr/bridgr/spec/Variable" "lowest" "Ljava/math/BigInteger;" .null ∧ Fld Z h a1 "com/example/bridgr/bridgr/spec/Variable" "highest" "Ljava/math/BigInteger;" .null) := by
  refine own_body own_pn_5 ?_
  intro p e s m below meth c s₁ hx hby hml hown hnm hret hlk X0 hZ e0
  replace hown : s.vm.findClass "com/example/bridgr/bridgr/spec/Variable" = some m.cls := hown
  have N0 := Fr.nil n0
  have K0 := Keep.refl h0 [a1]
  refine own_st (fun _ k => castTop (own_ef_rm_vi_1 m a1 a2 c_OUTPUT) k) ?_
  show own_go _ _ _ _ _ _ _ (s₁.setTop (mkF m 0 #[.val (.ref a1), .val (.ref a2), .val (.ref c_OUTPUT)] []))
  refine own_st (fun _ k => XS.aloadN X0.here hx rfl (hb hby d5_0) rfl rfl k) ?_
  show own_go _ _ _ _ _ _ _ (s₁.setTop (mkF m 1 #[.val (.ref a1), .val (.ref a2), .val (.ref c_OUTPUT)] [(.ref a1)]))
  obtain ⟨T75, X75, e75, st75⟩ := initO X0 hx hZ hown (hw _ (List.mem_of_getElem? (i := 35) rfl)) (hw _ (List.mem_of_getElem? (i := 19) rfl)) (hw _ (List.mem_of_getElem? (i := 20) rfl)) e0 (g := (mkF m 1 #[.val (.ref a1), .val (.ref a2), .val (.ref c_OUTPUT)] [(.ref a1)])) rfl (by rw [hml]; rfl) rfl (hb hby d5_1) (by decide) (W := 0) (by show 2 * 0 + _ ≤ _; exact Nat.le_of_eq rfl) (by decide)
  refine own_st st75 ?_
  show own_go _ _ _ _ _ _ _ (T75.setTop (mkF m 4 #[.val (.ref a1), .val (.ref a2), .val (.ref c_OUTPUT)] []))
  refine own_st (fun _ k => XS.aloadN X75.here hx rfl (hb hby d5_4) rfl rfl k) ?_
  show own_go _ _ _ _ _ _ _ (T75.setTop (mkF m 5 #[.val (.ref a1), .val (.ref a2), .val (.ref c_OUTPUT)] [(.ref a1)]))
  refine own_st (fun _ k => XS.aloadN X75.here hx rfl (hb hby d5_5) rfl rfl k) ?_
  show own_go _ _ _ _ _ _ _ (T75.setTop (mkF m 6 #[.val (.ref a1), .val (.ref a2), .val (.ref c_OUTPUT)] [(.ref a2), (.ref a1)]))
  obtain ⟨v76, T76, L76, X76, hQ76, st76⟩ := own_callS X75 hx hZ (argsL := [(.ref a2)]) (rest := [(.ref a1)]) (rmo_req l Z a0 hw a2 h0 n0 O0) hown (hw _ (List.mem_of_getElem? (i := 36) rfl)) (hw _ (List.mem_of_getElem? (i := 37) rfl)) (hw _ (List.mem_of_getElem? (i := 38) rfl)) (hw _ (List.mem_of_getElem? (i := 39) rfl)) (by decide) e75 (g := (mkF m 6 #[.val (.ref a1), .val (.ref a2), .val (.ref c_OUTPUT)] [(.ref a2), (.ref a1)])) rfl (by rw [hml]; rfl) (lenOf own_pd__28Ljava_2flang_2fObject_3b_29Ljava_2flang_2fObject_3b rfl) rfl (W := 1) (by show 2 * 0 + _ ≤ _; exact Nat.le_of_eq rfl) (hb hby d5_6) (by decide) (by decide) (by decide) (by decide)
  obtain ⟨rfl, Nq76, eq76⟩ := hQ76
  have N76 := Fr.app N0 Nq76
  refine own_st st76 ?_
  show own_go _ _ _ _ _ _ _ (T76.setTop (mkF m 9 #[.val (.ref a1), .val (.ref a2), .val (.ref c_OUTPUT)] [(.ref a2), (.ref a1)]))
  obtain ⟨T77, X77, e77, st77⟩ := castY X76 hx hZ hown (hw _ (List.mem_of_getElem? (i := 40) rfl)) eq76 (Ins.self E_a2) (g := (mkF m 9 #[.val (.ref a1), .val (.ref a2), .val (.ref c_OUTPUT)] [(.ref a2), (.ref a1)])) rfl rfl (hb hby d5_9)
  refine own_st st77 ?_
  show own_go _ _ _ _ _ _ _ (T77.setTop (mkF m 12 #[.val (.ref a1), .val (.ref a2), .val (.ref c_OUTPUT)] [(.ref a2), (.ref a1)]))
  obtain ⟨T78, h78, X78, e78, W78, st78⟩ := putF X77 hx hZ hown (host := "") (Or.inl (hw _ (List.mem_of_getElem? (i := 41) rfl))) Via.refl e77 F_a1_name E_a1 (Or.inr ⟨(hw _ (List.mem_of_getElem? (i := 42) rfl)), rfl, hnm⟩) (hw _ (List.mem_of_getElem? (i := 30) rfl)) (ty := (.object "java/lang/String")) (by decide) rfl rfl (g := (mkF m 12 #[.val (.ref a1), .val (.ref a2), .val (.ref c_OUTPUT)] [(.ref a2), (.ref a1)])) rfl rfl (hb hby d5_12)
  have N78 := Fr.snoc X78 N76 ge_a1
  have O79 := O0.wr W78 ge_a1
  have K79 := K0.wr W78 (Or.inl (List.mem_of_getElem? (i := 0) rfl))
  have F78 := F_a1_name.same W78
  refine own_st st78 ?_
  show own_go _ _ _ _ _ _ _ (T78.setTop (mkF m 15 #[.val (.ref a1), .val (.ref a2), .val (.ref c_OUTPUT)] []))
  refine own_st (fun _ k => XS.aloadN X78.here hx rfl (hb hby d5_15) rfl rfl k) ?_
  show own_go _ _ _ _ _ _ _ (T78.setTop (mkF m 16 #[.val (.ref a1), .val (.ref a2), .val (.ref c_OUTPUT)] [(.ref a1)]))
  refine own_st (fun _ k => XS.aloadN X78.here hx rfl (hb hby d5_16) rfl rfl k) ?_
  show own_go _ _ _ _ _ _ _ (T78.setTop (mkF m 17 #[.val (.ref a1), .val (.ref a2), .val (.ref c_OUTPUT)] [(.ref c_OUTPUT), (.ref a1)]))
  obtain ⟨v80, T80, L80, X80, hQ80, st80⟩ := own_callS X78 hx hZ (argsL := [(.ref c_OUTPUT)]) (rest := [(.ref a1)]) (rm_cd_1 l Z a0 hw c_OUTPUT c_INPUT z_COMPACT_STRINGS h78 n0 O79 hS) hown (hw _ (List.mem_of_getElem? (i := 43) rfl)) (hw _ (List.mem_of_getElem? (i := 44) rfl)) (hw _ (List.mem_of_getElem? (i := 31) rfl)) (hw _ (List.mem_of_getElem? (i := 45) rfl)) (by decide) e78 (g := (mkF m 17 #[.val (.ref a1), .val (.ref a2), .val (.ref c_OUTPUT)] [(.ref c_OUTPUT), (.ref a1)])) rfl (by rw [hml]; rfl) (lenOf own_pd__28Lcom_2fexample_2fbridgr_2fbridgr_2fspec_2fSection_3b_29Lcom_2fexample_2fbridgr_2fbridgr_2fspec_2fSection_3b rfl) rfl (W := 1) (by show 2 * 0 + _ ≤ _; exact Nat.le_of_eq rfl) (hb hby d5_17) (by decide) (by decide) (by decide) (by decide)
  obtain ⟨rfl, Nq80, eq80⟩ := hQ80
  have N80 := Fr.app N78 Nq80
  refine own_st st80 ?_
  show own_go _ _ _ _ _ _ _ (T80.setTop (mkF m 20 #[.val (.ref a1), .val (.ref a2), .val (.ref c_OUTPUT)] [(.ref c_OUTPUT), (.ref a1)]))
  have f82 := (F_a1_declaration.other W78 (Or.inr (slot_ne (Or.inr (hw _ (List.mem_of_getElem? (i := 55) rfl))) (Or.inr (hw _ (List.mem_of_getElem? (i := 42) rfl))) (by decide) (t := (.object "com/example/bridgr/bridgr/spec/Section")) (t' := (.object "java/lang/String")) (by decide) (by decide))))
  have f83 := (E_a1.wr W78)
  obtain ⟨T81, h81, X81, e81, W81, st81⟩ := putF X80 hx hZ hown (host := "") (Or.inl (hw _ (List.mem_of_getElem? (i := 54) rfl))) Via.refl eq80 f82 f83 (Or.inr ⟨(hw _ (List.mem_of_getElem? (i := 55) rfl)), rfl, hnm⟩) (hw _ (List.mem_of_getElem? (i := 30) rfl)) (ty := (.object "com/example/bridgr/bridgr/spec/Section")) (by decide) rfl rfl (g := (mkF m 20 #[.val (.ref a1), .val (.ref a2), .val (.ref c_OUTPUT)] [(.ref c_OUTPUT), (.ref a1)])) rfl rfl (hb hby d5_20)
  have N81 := Fr.snoc X81 N80 ge_a1
  have O84 := O79.wr W81 ge_a1
  have K84 := K79.wr W81 (Or.inl (List.mem_of_getElem? (i := 0) rfl))
  have F81 := f82.same W81
  refine own_st st81 ?_
  show own_go _ _ _ _ _ _ _ (T81.setTop (mkF m 23 #[.val (.ref a1), .val (.ref a2), .val (.ref c_OUTPUT)] []))
  refine own_st (fun _ k => XS.aloadN X81.here hx rfl (hb hby d5_23) rfl rfl k) ?_
  show own_go _ _ _ _ _ _ _ (T81.setTop (mkF m 24 #[.val (.ref a1), .val (.ref a2), .val (.ref c_OUTPUT)] [(.ref a1)]))
  refine own_st (fun _ k => XS.aconstNull X81.here hx rfl (hb hby d5_24) k) ?_
  show own_go _ _ _ _ _ _ _ (T81.setTop (mkF m 25 #[.val (.ref a1), .val (.ref a2), .val (.ref c_OUTPUT)] [.null, (.ref a1)]))
  have f86 := ((F_a1_lowest.other W78 (Or.inr (slot_ne (Or.inr (hw _ (List.mem_of_getElem? (i := 57) rfl))) (Or.inr (hw _ (List.mem_of_getElem? (i := 42) rfl))) (by decide) (t := (.object "java/math/BigInteger")) (t' := (.object "java/lang/String")) (by decide) (by decide)))).other W81 (Or.inr (slot_ne (Or.inr (hw _ (List.mem_of_getElem? (i := 57) rfl))) (Or.inr (hw _ (List.mem_of_getElem? (i := 55) rfl))) (by decide) (t := (.object "java/math/BigInteger")) (t' := (.object "com/example/bridgr/bridgr/spec/Section")) (by decide) (by decide))))
  have f87 := (f83.wr W81)
  obtain ⟨T85, h85, X85, e85, W85, st85⟩ := putF X81 hx hZ hown (host := "") (Or.inl (hw _ (List.mem_of_getElem? (i := 56) rfl))) Via.refl e81 f86 f87 (Or.inr ⟨(hw _ (List.mem_of_getElem? (i := 57) rfl)), rfl, hnm⟩) (hw _ (List.mem_of_getElem? (i := 30) rfl)) (ty := (.object "java/math/BigInteger")) (by decide) rfl rfl (g := (mkF m 25 #[.val (.ref a1), .val (.ref a2), .val (.ref c_OUTPUT)] [.null, (.ref a1)])) rfl rfl (hb hby d5_25)
  have N85 := Fr.snoc X85 N81 ge_a1
  have O88 := O84.wr W85 ge_a1
  have K88 := K84.wr W85 (Or.inl (List.mem_of_getElem? (i := 0) rfl))
  have F85 := f86.same W85
  refine own_st st85 ?_
  show own_go _ _ _ _ _ _ _ (T85.setTop (mkF m 28 #[.val (.ref a1), .val (.ref a2), .val (.ref c_OUTPUT)] []))
  refine own_st (fun _ k => XS.aloadN X85.here hx rfl (hb hby d5_28) rfl rfl k) ?_
  show own_go _ _ _ _ _ _ _ (T85.setTop (mkF m 29 #[.val (.ref a1), .val (.ref a2), .val (.ref c_OUTPUT)] [(.ref a1)]))
  refine own_st (fun _ k => XS.aconstNull X85.here hx rfl (hb hby d5_29) k) ?_
  show own_go _ _ _ _ _ _ _ (T85.setTop (mkF m 30 #[.val (.ref a1), .val (.ref a2), .val (.ref c_OUTPUT)] [.null, (.ref a1)]))
  have f90 := (((F_a1_highest.other W78 (Or.inr (slot_ne (Or.inr (hw _ (List.mem_of_getElem? (i := 59) rfl))) (Or.inr (hw _ (List.mem_of_getElem? (i := 42) rfl))) (by decide) (t := (.object "java/math/BigInteger")) (t' := (.object "java/lang/String")) (by decide) (by decide)))).other W81 (Or.inr (slot_ne (Or.inr (hw _ (List.mem_of_getElem? (i := 59) rfl))) (Or.inr (hw _ (List.mem_of_getElem? (i := 55) rfl))) (by decide) (t := (.object "java/math/BigInteger")) (t' := (.object "com/example/bridgr/bridgr/spec/Section")) (by decide) (by decide)))).other W85 (Or.inr (slot_ne (Or.inr (hw _ (List.mem_of_getElem? (i := 59) rfl))) (Or.inr (hw _ (List.mem_of_getElem? (i := 57) rfl))) (by decide) (t := (.object "java/math/BigInteger")) (t' := (.object "java/math/BigInteger")) (by decide) (by decide))))
  have f91 := (f87.wr W85)
  obtain ⟨T89, h89, X89, e89, W89, st89⟩ := putF X85 hx hZ hown (host := "") (Or.inl (hw _ (List.mem_of_getElem? (i := 58) rfl))) Via.refl e85 f90 f91 (Or.inr ⟨(hw _ (List.mem_of_getElem? (i := 59) rfl)), rfl, hnm⟩) (hw _ (List.mem_of_getElem? (i := 30) rfl)) (ty := (.object "java/math/BigInteger")) (by decide) rfl rfl (g := (mkF m 30 #[.val (.ref a1), .val (.ref a2), .val (.ref c_OUTPUT)] [.null, (.ref a1)])) rfl rfl (hb hby d5_30)
  have N89 := Fr.snoc X89 N85 ge_a1
  have O92 := O88.wr W89 ge_a1
  have K92 := K88.wr W89 (Or.inl (List.mem_of_getElem? (i := 0) rfl))
  have F89 := f90.same W89
  refine own_st st89 ?_
  show own_go _ _ _ _ _ _ _ (T89.setTop (mkF m 33 #[.val (.ref a1), .val (.ref a2), .val (.ref c_OUTPUT)] []))
  have f93 := (F85.other W89 (Or.inr (slot_ne (Or.inr (hw _ (List.mem_of_getElem? (i := 57) rfl))) (Or.inr (hw _ (List.mem_of_getElem? (i := 59) rfl))) (by decide) (t := (.object "java/math/BigInteger")) (t' := (.object "java/math/BigInteger")) (by decide) (by decide))))
  exact own_ret0 X89 hx hlk hret (hb hby d5_33) (by decide) (by decide) (by rw [e89]; exact ⟨rfl, N89, K92, f93, F89⟩)
theorem d9_0 : decode prog_30_method_7_code 0 = .ok (.aload_n 0, 1) := by decide +kernel
theorem d9_1 : decode prog_30_method_7_code 1 = .ok (.getfield 29, 3) := by decide +kernel
theorem d9_4 : decode prog_30_method_7_code 4 = .ok (.ifnull 7, 3) := by decide +kernel
theorem d9_11 : decode prog_30_method_7_code 11 = .ok (.iconst 0, 1) := by decide +kernel
theorem d9_12 : decode prog_30_method_7_code 12 = .ok (.ireturn, 1) := by decide +kernel
theorem own_pn_9 : plainFor (⟨"com/example/bridgr/bridgr/spec/Variable", "isInteger", "()Z"⟩ : MethodName) = true := plainFor_of_name (show plainName "com/example/bridgr/bridgr/spec/Variable" = true by first | (simp [plainName, overriddenIn]; done) | decide +kernel)
theorem own_ef_rm_isInteger (m : MethodId) (a1 : Addr) : entryFrame m #[(.ref a1)] 1 = mkF m 0 #[.val (.ref a1)] [] := by first | (simp [entryFrame, mkF, argsToLocals, Value.category]; done) | rfl
set_option maxRecDepth 65536 in
set_option maxHeartbeats 40000000 in
theorem rm_isInteger (l : Launch) (Z : State) (a0 : Array Value) (hw : ∀ d ∈ tables_1, d.before a0 Z = true) (a1 : Addr) (h0 : Heap) (n0 : Nat) (O0 : Old Z n0 h0) (F1 : Fld Z h0 a1 "com/example/bridgr/bridgr/spec/Variable" "lowest" "Ljava/math/BigInteger;" .null) :
    own_Met l Z (⟨"com/example/bridgr/bridgr/spec/Variable", "isInteger", "()Z"⟩ : MethodName) prog_30_method_7_code 1 (some .boolean) [] ({ frames := 0, cells := 0, slots := 0, locals := 0 } : Room) #[(.ref a1)] h0 (fun v h L => v = some (.int (0 : Int32)) ∧ Fr n0 L ∧ h = h0) := by
  refine own_body own_pn_9 ?_
  intro p e s m below meth c s₁ hx hby hml hown hnm hret hlk X0 hZ e0
  replace hown : s.vm.findClass "com/example/bridgr/bridgr/spec/Variable" = some m.cls := hown
  have N0 := Fr.nil n0
  have K0 := Keep.refl h0 []
  refine own_st (fun _ k => castTop (own_ef_rm_isInteger m a1) k) ?_
  show own_go _ _ _ _ _ _ _ (s₁.setTop (mkF m 0 #[.val (.ref a1)] []))
  refine own_st (fun _ k => XS.aloadN X0.here hx rfl (hb hby d9_0) rfl rfl k) ?_
  show own_go _ _ _ _ _ _ _ (s₁.setTop (mkF m 1 #[.val (.ref a1)] [(.ref a1)]))
  obtain ⟨T94, X94, e94, st94⟩ := getF X0 hx hZ hown (host := "") (Or.inl (hw _ (List.mem_of_getElem? (i := 56) rfl))) Via.refl e0 F1 (g := (mkF m 1 #[.val (.ref a1)] [(.ref a1)])) rfl rfl (hb hby d9_1)
  refine own_st st94 ?_
  show own_go _ _ _ _ _ _ _ (T94.setTop (mkF m 4 #[.val (.ref a1)] [.null]))
  refine own_st (fun _ k => XS.ifnullYes X94.here hx rfl (pc0 := 4) (pc' := 11) rfl (hb hby d9_4) rfl (by decide) (by decide) k) ?_
  show own_go _ _ _ _ _ _ _ (T94.setTop (mkF m 11 #[.val (.ref a1)] []))
  refine own_st (fun _ k => XS.iconst X94.here hx rfl (hb hby d9_11) k) ?_
  show own_go _ _ _ _ _ _ _ (T94.setTop (mkF m 12 #[.val (.ref a1)] [(.int (0 : Int32))]))
  exact own_retN X94 hx hlk (t := .boolean) hret (by simp) rfl (hb hby d9_12) (by decide) (by decide) (⟨rfl, N0, e94⟩)
theorem d10_0 : decode prog_30_method_8_code 0 = .ok (.aload_n 0, 1) := by decide +kernel
theorem d10_1 : decode prog_30_method_8_code 1 = .ok (.getfield 29, 3) := by decide +kernel
theorem d10_4 : decode prog_30_method_8_code 4 = .ok (.areturn, 1) := by decide +kernel
theorem own_pn_10 : plainFor (⟨"com/example/bridgr/bridgr/spec/Variable", "lowest", "()Ljava/math/BigInteger;"⟩ : MethodName) = true := plainFor_of_name (show plainName "com/example/bridgr/bridgr/spec/Variable" = true by first | (simp [plainName, overriddenIn]; done) | decide +kernel)
theorem own_ef_rm_lowest (m : MethodId) (a1 : Addr) : entryFrame m #[(.ref a1)] 1 = mkF m 0 #[.val (.ref a1)] [] := by first | (simp [entryFrame, mkF, argsToLocals, Value.category]; done) | rfl
set_option maxRecDepth 65536 in
set_option maxHeartbeats 40000000 in
theorem rm_lowest (l : Launch) (Z : State) (a0 : Array Value) (hw : ∀ d ∈ tables_1, d.before a0 Z = true) (a1 : Addr) (h0 : Heap) (n0 : Nat) (O0 : Old Z n0 h0) (F1 : Fld Z h0 a1 "com/example/bridgr/bridgr/spec/Variable" "lowest" "Ljava/math/BigInteger;" .null) :
    own_Met l Z (⟨"com/example/bridgr/bridgr/spec/Variable", "lowest", "()Ljava/math/BigInteger;"⟩ : MethodName) prog_30_method_8_code 1 (some (.object "java/math/BigInteger")) [] ({ frames := 0, cells := 0, slots := 0, locals := 0 } : Room) #[(.ref a1)] h0 (fun v h L => v = some .null ∧ Fr n0 L ∧ h = h0) := by
  refine own_body own_pn_10 ?_
  intro p e s m below meth c s₁ hx hby hml hown hnm hret hlk X0 hZ e0
  replace hown : s.vm.findClass "com/example/bridgr/bridgr/spec/Variable" = some m.cls := hown
  have N0 := Fr.nil n0
  have K0 := Keep.refl h0 []
  refine own_st (fun _ k => castTop (own_ef_rm_lowest m a1) k) ?_
  show own_go _ _ _ _ _ _ _ (s₁.setTop (mkF m 0 #[.val (.ref a1)] []))
  refine own_st (fun _ k => XS.aloadN X0.here hx rfl (hb hby d10_0) rfl rfl k) ?_
  show own_go _ _ _ _ _ _ _ (s₁.setTop (mkF m 1 #[.val (.ref a1)] [(.ref a1)]))
  obtain ⟨T95, X95, e95, st95⟩ := getF X0 hx hZ hown (host := "") (Or.inl (hw _ (List.mem_of_getElem? (i := 56) rfl))) Via.refl e0 F1 (g := (mkF m 1 #[.val (.ref a1)] [(.ref a1)])) rfl rfl (hb hby d10_1)
  refine own_st st95 ?_
  show own_go _ _ _ _ _ _ _ (T95.setTop (mkF m 4 #[.val (.ref a1)] [.null]))
  exact own_retA X95 hx hlk hret rfl rfl (hb hby d10_4) (by decide) (by decide) (⟨rfl, N0, e95⟩)
theorem d11_0 : decode prog_30_method_9_code 0 = .ok (.aload_n 0, 1) := by decide +kernel
theorem d11_1 : decode prog_30_method_9_code 1 = .ok (.getfield 33, 3) := by decide +kernel
theorem d11_4 : decode prog_30_method_9_code 4 = .ok (.areturn, 1) := by decide +kernel
theorem own_pn_11 : plainFor (⟨"com/example/bridgr/bridgr/spec/Variable", "highest", "()Ljava/math/BigInteger;"⟩ : MethodName) = true := plainFor_of_name (show plainName "com/example/bridgr/bridgr/spec/Variable" = true by first | (simp [plainName, overriddenIn]; done) | decide +kernel)
theorem own_ef_rm_highest (m : MethodId) (a1 : Addr) : entryFrame m #[(.ref a1)] 1 = mkF m 0 #[.val (.ref a1)] [] := by first | (simp [entryFrame, mkF, argsToLocals, Value.category]; done) | rfl
set_option maxRecDepth 65536 in
set_option maxHeartbeats 40000000 in
theorem rm_highest (l : Launch) (Z : State) (a0 : Array Value) (hw : ∀ d ∈ tables_1, d.before a0 Z = true) (a1 : Addr) (h0 : Heap) (n0 : Nat) (O0 : Old Z n0 h0) (F1 : Fld Z h0 a1 "com/example/bridgr/bridgr/spec/Variable" "highest" "Ljava/math/BigInteger;" .null) :
    own_Met l Z (⟨"com/example/bridgr/bridgr/spec/Variable", "highest", "()Ljava/math/BigInteger;"⟩ : MethodName) prog_30_method_9_code 1 (some (.object "java/math/BigInteger")) [] ({ frames := 0, cells := 0, slots := 0, locals := 0 } : Room) #[(.ref a1)] h0 (fun v h L => v = some .null ∧ Fr n0 L ∧ h = h0) := by
  refine own_body own_pn_11 ?_
  intro p e s m below meth c s₁ hx hby hml hown hnm hret hlk X0 hZ e0
  replace hown : s.vm.findClass "com/example/bridgr/bridgr/spec/Variable" = some m.cls := hown
  have N0 := Fr.nil n0
  have K0 := Keep.refl h0 []
  refine own_st (fun _ k => castTop (own_ef_rm_highest m a1) k) ?_
  show own_go _ _ _ _ _ _ _ (s₁.setTop (mkF m 0 #[.val (.ref a1)] []))
  refine own_st (fun _ k => XS.aloadN X0.here hx rfl (hb hby d11_0) rfl rfl k) ?_
  show own_go _ _ _ _ _ _ _ (s₁.setTop (mkF m 1 #[.val (.ref a1)] [(.ref a1)]))
  obtain ⟨T96, X96, e96, st96⟩ := getF X0 hx hZ hown (host := "") (Or.inl (hw _ (List.mem_of_getElem? (i := 58) rfl))) Via.refl e0 F1 (g := (mkF m 1 #[.val (.ref a1)] [(.ref a1)])) rfl rfl (hb hby d11_1)
  refine own_st st96 ?_
  show own_go _ _ _ _ _ _ _ (T96.setTop (mkF m 4 #[.val (.ref a1)] [.null]))
  exact own_retA X96 hx hlk hret rfl rfl (hb hby d11_4) (by decide) (by decide) (⟨rfl, N0, e96⟩)
theorem own_pn_0 : plainFor x = true := plainFor_of_name (show plainName "com/example/bridgr/bridgr/spec/VariableIsIntegerPinLaw" = true by first | (simp [plainName, overriddenIn]; done) | decide +kernel)
theorem own_pd__28III_29Ljava_2flang_2fString_3b : parseMethodDescriptor "(III)Ljava/lang/String;" = some ⟨[.int, .int, .int], some (.object "java/lang/String")⟩ := by decide +kernel
theorem own_pd__28Ljava_2flang_2fString_3bLcom_2fexample_2fbridgr_2fbridgr_2fspec_2fSection_3b_29V : parseMethodDescriptor "(Ljava/lang/String;Lcom/example/bridgr/bridgr/spec/Section;)V" = some ⟨[(.object "java/lang/String"), (.object "com/example/bridgr/bridgr/spec/Section")], none⟩ := by decide +kernel
theorem own_pd__28_29Ljava_2fmath_2fBigInteger_3b : parseMethodDescriptor "()Ljava/math/BigInteger;" = some ⟨[], some (.object "java/math/BigInteger")⟩ := by decide +kernel
theorem own_ef_rm0 (m : MethodId) (p0 : Int32) (p1 : Int32) (p2 : Int32) : entryFrame m #[(.int p0), (.int p1), (.int p2)] maxLocals = mkF m 0 #[.val (.int p0), .val (.int p1), .val (.int p2), .unset, .unset, .unset, .unset, .unset] [] := by first | (simp [entryFrame, mkF, argsToLocals, Value.category, maxLocals]; done) | rfl
set_option maxRecDepth 65536 in
set_option maxHeartbeats 40000000 in
theorem rm0 (l : Launch) (Z : State) (a0 : Array Value) (hw : ∀ d ∈ tables_1, d.before a0 Z = true) (ws : List Jvm.Cond) (p0 p1 p2 : Int32) (c_OUTPUT : Addr) (c_INPUT : Addr) (z_COMPACT_STRINGS : Int32) (h0 : Heap) (n0 : Nat) (O0 : Old Z n0 h0) (hS : own_S Z c_OUTPUT c_INPUT z_COMPACT_STRINGS) :
    own_MetW l Z consts_1 x code maxLocals ret ws room_1 #[(.int p0), (.int p1), (.int p2)] h0 (fun v h L => v = some (.int 1) ∧ Fr n0 L) := by
  refine own_bodyW own_pn_0 ?_
  intro p e s m below meth c s₁ hx hby hml hown hnm hret hlk X0 hZ e0 C0 hS0
  have hk0 : h0.size ≤ h0.size := Nat.le_refl _
  have hEL := own_EW hw
  have wS := own_sA hw
  replace hown : s.vm.findClass "com/example/bridgr/bridgr/spec/VariableIsIntegerPinLaw" = some m.cls := hown
  have N0 := Fr.nil n0
  have K0 := Keep.refl h0 []
  refine own_stW (fun _ k => castTop (own_ef_rm0 m p0 p1 p2) k) ?_
  show own_goW _ _ _ _ _ _ _ _ _ _ (s₁.setTop (mkF m 0 #[.val (.int p0), .val (.int p1), .val (.int p2), .unset, .unset, .unset, .unset, .unset] []))
  refine own_stW (fun _ k => XS.iloadN X0.here hx rfl (hb hby at_0) rfl k) ?_
  show own_goW _ _ _ _ _ _ _ _ _ _ (s₁.setTop (mkF m 1 #[.val (.int p0), .val (.int p1), .val (.int p2), .unset, .unset, .unset, .unset, .unset] [(.int p0)]))
  refine own_stW (fun _ k => XS.iconst X0.here hx rfl (hb hby at_1) k) ?_
  show own_goW _ _ _ _ _ _ _ _ _ _ (s₁.setTop (mkF m 2 #[.val (.int p0), .val (.int p1), .val (.int p2), .unset, .unset, .unset, .unset, .unset] [(.int (1 : Int32)), (.int p0)]))
  refine own_stW (fun _ k => XS.iand X0.here hx rfl (hb hby at_2) rfl k) ?_
  show own_goW _ _ _ _ _ _ _ _ _ _ (s₁.setTop (mkF m 3 #[.val (.int p0), .val (.int p1), .val (.int p2), .unset, .unset, .unset, .unset, .unset] [(.int (p0 &&& (1 : Int32)))]))
  by_cases hc97 : (p0 &&& (1 : Int32)) = (0 : Int32)
  · skip
    refine own_stW (fun _ k => XS.ifYes X0.here hx rfl (pc0 := 3) (pc' := 12) rfl (hb hby at_3) rfl (XT.i0_eq_t hc97) (by decide) (by decide) k) ?_
    show own_goW _ _ _ _ _ _ _ _ _ _ (s₁.setTop (mkF m 12 #[.val (.int p0), .val (.int p1), .val (.int p2), .unset, .unset, .unset, .unset, .unset] []))
    obtain ⟨T98, X98, e98, st98⟩ := getS2 X0 hx hZ hown (host := "") (Or.inl (hw _ (List.mem_of_getElem? (i := 0) rfl))) Via.refl e0 (hS.1.ext O0.2) (g := (mkF m 12 #[.val (.int p0), .val (.int p1), .val (.int p2), .unset, .unset, .unset, .unset, .unset] [])) rfl (hb hby at_12)
    refine own_stW st98 ?_
    show own_goW _ _ _ _ _ _ _ _ _ _ (T98.setTop (mkF m 15 #[.val (.int p0), .val (.int p1), .val (.int p2), .unset, .unset, .unset, .unset, .unset] [(.ref c_OUTPUT)]))
    refine own_stW (fun _ k => XS.astoreN X98.here hx rfl (hb hby at_15) rfl rfl (l' := #[.val (.int p0), .val (.int p1), .val (.int p2), .val (.ref c_OUTPUT), .unset, .unset, .unset, .unset]) rfl k) ?_
    show own_goW _ _ _ _ _ _ _ _ _ _ (T98.setTop (mkF m 16 #[.val (.int p0), .val (.int p1), .val (.int p2), .val (.ref c_OUTPUT), .unset, .unset, .unset, .unset] []))
    refine own_stW (fun _ k => XS.iloadN X98.here hx rfl (hb hby at_16) rfl k) ?_
    show own_goW _ _ _ _ _ _ _ _ _ _ (T98.setTop (mkF m 17 #[.val (.int p0), .val (.int p1), .val (.int p2), .val (.ref c_OUTPUT), .unset, .unset, .unset, .unset] [(.int p0)]))
    refine own_stW (fun _ k => XS.iconst X98.here hx rfl (hb hby at_17) k) ?_
    show own_goW _ _ _ _ _ _ _ _ _ _ (T98.setTop (mkF m 18 #[.val (.int p0), .val (.int p1), .val (.int p2), .val (.ref c_OUTPUT), .unset, .unset, .unset, .unset] [(.int (1 : Int32)), (.int p0)]))
    refine own_stW (fun _ k => XS.iushr X98.here hx rfl (hb hby at_18) rfl k) ?_
    show own_goW _ _ _ _ _ _ _ _ _ _ (T98.setTop (mkF m 19 #[.val (.int p0), .val (.int p1), .val (.int p2), .val (.ref c_OUTPUT), .unset, .unset, .unset, .unset] [(.int ((p0.toUInt32 >>> ((1 : Int32) &&& 31).toUInt32).toInt32))]))
    refine own_stW (fun _ k => XS.iloadN X98.here hx rfl (hb hby at_19) rfl k) ?_
    show own_goW _ _ _ _ _ _ _ _ _ _ (T98.setTop (mkF m 20 #[.val (.int p0), .val (.int p1), .val (.int p2), .val (.ref c_OUTPUT), .unset, .unset, .unset, .unset] [(.int p1), (.int ((p0.toUInt32 >>> ((1 : Int32) &&& 31).toUInt32).toInt32))]))
    refine own_stW (fun _ k => XS.iloadN X98.here hx rfl (hb hby at_20) rfl k) ?_
    show own_goW _ _ _ _ _ _ _ _ _ _ (T98.setTop (mkF m 21 #[.val (.int p0), .val (.int p1), .val (.int p2), .val (.ref c_OUTPUT), .unset, .unset, .unset, .unset] [(.int p2), (.int p1), (.int ((p0.toUInt32 >>> ((1 : Int32) &&& 31).toUInt32).toInt32))]))
    obtain ⟨v99, T99, L99, X99, hS99, hZ99, hown99, CH99, hQ99, st99⟩ := own_callSW X98 hx hZ hS0 hk0 hEL C0.1 (argsL := [(.int ((p0.toUInt32 >>> ((1 : Int32) &&& 31).toUInt32).toInt32)), (.int p1), (.int p2)]) (rest := []) (rm_dn l Z a0 hw ((p0.toUInt32 >>> ((1 : Int32) &&& 31).toUInt32).toInt32) p1 p2 c_OUTPUT c_INPUT z_COMPACT_STRINGS h0 n0 O0 hS) hown (hw _ (List.mem_of_getElem? (i := 3) rfl)) (hw _ (List.mem_of_getElem? (i := 4) rfl)) (hw _ (List.mem_of_getElem? (i := 5) rfl)) (hw _ (List.mem_of_getElem? (i := 6) rfl)) (by decide) e98 (g := (mkF m 21 #[.val (.int p0), .val (.int p1), .val (.int p2), .val (.ref c_OUTPUT), .unset, .unset, .unset, .unset] [(.int p2), (.int p1), (.int ((p0.toUInt32 >>> ((1 : Int32) &&& 31).toUInt32).toInt32))])) rfl (by rw [hml]; rfl) (lenOf own_pd__28III_29Ljava_2flang_2fString_3b rfl) rfl (W := 0) (by show 2 * 0 + _ ≤ _; exact Nat.le_of_eq rfl) (hb hby at_21) (by decide) (by decide) (by decide) (by decide)
    obtain ⟨r99, rfl, Nq99, Kq99, sz99, A99⟩ := hQ99
    have N99 := Fr.app N0 Nq99
    have O99 := O0.keep Kq99 all0
    have K99 := K0.trans Kq99 all0
    have C99 := C0.trans CH99
    have hk99 := Nat.le_refl T99.heap.size
    refine own_stW st99 ?_
    show own_goW _ _ _ _ _ _ _ _ _ _ (T99.setTop (mkF m 24 #[.val (.int p0), .val (.int p1), .val (.int p2), .val (.ref c_OUTPUT), .unset, .unset, .unset, .unset] [(.ref r99)]))
    refine own_stW (fun _ k => XS.astore X99.here hx rfl (hb hby at_24) rfl rfl (l' := #[.val (.int p0), .val (.int p1), .val (.int p2), .val (.ref c_OUTPUT), .val (.ref r99), .unset, .unset, .unset]) rfl k) ?_
    show own_goW _ _ _ _ _ _ _ _ _ _ (T99.setTop (mkF m 26 #[.val (.int p0), .val (.int p1), .val (.int p2), .val (.ref c_OUTPUT), .val (.ref r99), .unset, .unset, .unset] []))
    obtain ⟨T100, h100, X100, e100, E100, A100, D100, -, st100⟩ := newO X99 hx hZ99 hown99 (hw _ (List.mem_of_getElem? (i := 29) rfl)) (hw _ (List.mem_of_getElem? (i := 30) rfl)) (hw _ (List.mem_of_getElem? (i := 31) rfl)) rfl (g := (mkF m 26 #[.val (.int p0), .val (.int p1), .val (.int p2), .val (.ref c_OUTPUT), .val (.ref r99), .unset, .unset, .unset] [])) rfl (hb hby at_26) (by decide) (by decide)
    obtain ⟨b100, g100⟩ : ∃ z, z = T99.heap.size := ⟨_, rfl⟩
    rw [← g100] at A100 D100 st100
    have ge_b100 : n0 ≤ b100 := by rw [g100]; exact own_osz O99
    have sz_b100 : h0.size ≤ b100 := by rw [g100]; exact K99.1
    have ne_r99_b100 : r99 ≠ b100 := (fun q => absurd A99.lt (by rw [q, g100]; exact Nat.lt_irrefl _))
    have O100 := O99.ext E100
    have K100 := K99.ext E100
    have Ce100 := C99.trans (CHr.ext E100 C99.1)
    have hke100 := Nat.le_trans hk99 E100.1
    refine own_stW st100 ?_
    show own_goW _ _ _ _ _ _ _ _ _ _ (T100.setTop (mkF m 29 #[.val (.int p0), .val (.int p1), .val (.int p2), .val (.ref c_OUTPUT), .val (.ref r99), .unset, .unset, .unset] [(.ref b100)]))
    refine own_stW (fun _ k => XS.dup X100.here hx rfl (hb hby at_29) rfl rfl k) ?_
    show own_goW _ _ _ _ _ _ _ _ _ _ (T100.setTop (mkF m 30 #[.val (.int p0), .val (.int p1), .val (.int p2), .val (.ref c_OUTPUT), .val (.ref r99), .unset, .unset, .unset] [(.ref b100), (.ref b100)]))
    refine own_stW (fun _ k => XS.aload X100.here hx rfl (hb hby at_30) rfl rfl k) ?_
    show own_goW _ _ _ _ _ _ _ _ _ _ (T100.setTop (mkF m 32 #[.val (.int p0), .val (.int p1), .val (.int p2), .val (.ref c_OUTPUT), .val (.ref r99), .unset, .unset, .unset] [(.ref r99), (.ref b100), (.ref b100)]))
    refine own_stW (fun _ k => XS.aloadN X100.here hx rfl (hb hby at_32) rfl rfl k) ?_
    show own_goW _ _ _ _ _ _ _ _ _ _ (T100.setTop (mkF m 33 #[.val (.int p0), .val (.int p1), .val (.int p2), .val (.ref c_OUTPUT), .val (.ref r99), .unset, .unset, .unset] [(.ref c_OUTPUT), (.ref r99), (.ref b100), (.ref b100)]))
    have f102 := (A99.ext E100)
    obtain ⟨v101, T101, L101, X101, hQ101, st101⟩ := own_callN X100 hx hZ99 (argsL := [(.ref r99), (.ref c_OUTPUT)]) (rest := [(.ref b100)]) (rm_vi_1 l Z a0 hw b100 r99 c_OUTPUT c_INPUT z_COMPACT_STRINGS h100 n0 O100 hS ge_b100 A100 (D100 (Or.inr (hw _ (List.mem_of_getElem? (i := 42) rfl))) (ty := (.object "java/lang/String")) (by decide)) (D100 (Or.inr (hw _ (List.mem_of_getElem? (i := 55) rfl))) (ty := (.object "com/example/bridgr/bridgr/spec/Section")) (by decide)) (D100 (Or.inr (hw _ (List.mem_of_getElem? (i := 57) rfl))) (ty := (.object "java/math/BigInteger")) (by decide)) (D100 (Or.inr (hw _ (List.mem_of_getElem? (i := 59) rfl))) (ty := (.object "java/math/BigInteger")) (by decide)) f102) rfl hown99 (hw _ (List.mem_of_getElem? (i := 32) rfl)) (hw _ (List.mem_of_getElem? (i := 33) rfl)) (hw _ (List.mem_of_getElem? (i := 31) rfl)) (hw _ (List.mem_of_getElem? (i := 34) rfl)) (by decide) e100 (g := (mkF m 33 #[.val (.int p0), .val (.int p1), .val (.int p2), .val (.ref c_OUTPUT), .val (.ref r99), .unset, .unset, .unset] [(.ref c_OUTPUT), (.ref r99), (.ref b100), (.ref b100)])) rfl (by rw [hml]; rfl) (lenOf own_pd__28Ljava_2flang_2fString_3bLcom_2fexample_2fbridgr_2fbridgr_2fspec_2fSection_3b_29V rfl) rfl (W := 1) (by show 2 * 0 + _ ≤ _; exact Nat.le_of_eq rfl) (hb hby at_33) (by decide) (by decide) (by decide) (by decide)
    obtain ⟨rfl, Nq101, Kq101, F101_0, F101_1⟩ := hQ101
    have N101 := Fr.app N99 Nq101
    have Ck101 := Ce100.trans (CHr.keep Kq101 (allS (Safe.exa hZ99.alike A100 (by decide) (by decide)) all0) Ce100.1)
    have hkk101 := Nat.le_trans hke100 Kq101.1
    have O101 := O100.keep Kq101 (allS ge_b100 all0)
    have K101 := K100.trans Kq101 (allS (Or.inr sz_b100) all0)
    refine own_stW st101 ?_
    show own_goW _ _ _ _ _ _ _ _ _ _ (T101.setTop (mkF m 36 #[.val (.int p0), .val (.int p1), .val (.int p2), .val (.ref c_OUTPUT), .val (.ref r99), .unset, .unset, .unset] [(.ref b100)]))
    refine own_stW (fun _ k => XS.astore X101.here hx rfl (hb hby at_36) rfl rfl (l' := #[.val (.int p0), .val (.int p1), .val (.int p2), .val (.ref c_OUTPUT), .val (.ref r99), .val (.ref b100), .unset, .unset]) rfl k) ?_
    show own_goW _ _ _ _ _ _ _ _ _ _ (T101.setTop (mkF m 38 #[.val (.int p0), .val (.int p1), .val (.int p2), .val (.ref c_OUTPUT), .val (.ref r99), .val (.ref b100), .unset, .unset] []))
    refine own_stW (fun _ k => XS.aload X101.here hx rfl (hb hby at_38) rfl rfl k) ?_
    show own_goW _ _ _ _ _ _ _ _ _ _ (T101.setTop (mkF m 40 #[.val (.int p0), .val (.int p1), .val (.int p2), .val (.ref c_OUTPUT), .val (.ref r99), .val (.ref b100), .unset, .unset] [(.ref b100)]))
    have f104 := (A100.keep Kq101)
    obtain ⟨v103, T103, L103, X103, hQ103, st103⟩ := own_callV X101 hx hZ99 (argsL := []) (rest := []) (rm_isInteger l Z a0 hw b100 T101.heap n0 O101 F101_0) hown99 (hw _ (List.mem_of_getElem? (i := 60) rfl)) (hw _ (List.mem_of_getElem? (i := 61) rfl)) (notFace_of_selects (args := #[]) (mvT hZ99 (hw _ (List.mem_of_getElem? (i := 63) rfl)))) (hw _ (List.mem_of_getElem? (i := 63) rfl)) (hw _ (List.mem_of_getElem? (i := 62) rfl)) (hw _ (List.mem_of_getElem? (i := 31) rfl)) (hw _ (List.mem_of_getElem? (i := 64) rfl)) (by decide) rfl f104 (g := (mkF m 40 #[.val (.int p0), .val (.int p1), .val (.int p2), .val (.ref c_OUTPUT), .val (.ref r99), .val (.ref b100), .unset, .unset] [(.ref b100)])) rfl (by rw [hml]; rfl) (lenOf own_pd__28_29Z rfl) rfl (W := 0) (by show 2 * 0 + _ ≤ _; exact Nat.le_of_eq rfl) (hb hby at_40) (by decide) (by decide) (by decide) (by decide)
    obtain ⟨rfl, Nq103, eq103⟩ := hQ103
    have N103 := Fr.app N101 Nq103
    refine own_stW st103 ?_
    show own_goW _ _ _ _ _ _ _ _ _ _ (T103.setTop (mkF m 43 #[.val (.int p0), .val (.int p1), .val (.int p2), .val (.ref c_OUTPUT), .val (.ref r99), .val (.ref b100), .unset, .unset] [(.int (0 : Int32))]))
    refine own_stW (fun _ k => XS.istore X103.here hx rfl (hb hby at_43) rfl (l' := #[.val (.int p0), .val (.int p1), .val (.int p2), .val (.ref c_OUTPUT), .val (.ref r99), .val (.ref b100), .val (.int (0 : Int32)), .unset]) rfl k) ?_
    show own_goW _ _ _ _ _ _ _ _ _ _ (T103.setTop (mkF m 45 #[.val (.int p0), .val (.int p1), .val (.int p2), .val (.ref c_OUTPUT), .val (.ref r99), .val (.ref b100), .val (.int (0 : Int32)), .unset] []))
    refine own_stW (fun _ k => XS.aload X103.here hx rfl (hb hby at_45) rfl rfl k) ?_
    show own_goW _ _ _ _ _ _ _ _ _ _ (T103.setTop (mkF m 47 #[.val (.int p0), .val (.int p1), .val (.int p2), .val (.ref c_OUTPUT), .val (.ref r99), .val (.ref b100), .val (.int (0 : Int32)), .unset] [(.ref b100)]))
    obtain ⟨v105, T105, L105, X105, hQ105, st105⟩ := own_callV X103 hx hZ99 (argsL := []) (rest := []) (rm_lowest l Z a0 hw b100 T101.heap n0 O101 F101_0) hown99 (hw _ (List.mem_of_getElem? (i := 65) rfl)) (hw _ (List.mem_of_getElem? (i := 66) rfl)) (notFace_of_selects (args := #[]) (mvT hZ99 (hw _ (List.mem_of_getElem? (i := 68) rfl)))) (hw _ (List.mem_of_getElem? (i := 68) rfl)) (hw _ (List.mem_of_getElem? (i := 67) rfl)) (hw _ (List.mem_of_getElem? (i := 31) rfl)) (hw _ (List.mem_of_getElem? (i := 69) rfl)) (by decide) eq103 f104 (g := (mkF m 47 #[.val (.int p0), .val (.int p1), .val (.int p2), .val (.ref c_OUTPUT), .val (.ref r99), .val (.ref b100), .val (.int (0 : Int32)), .unset] [(.ref b100)])) rfl (by rw [hml]; rfl) (lenOf own_pd__28_29Ljava_2fmath_2fBigInteger_3b rfl) rfl (W := 0) (by show 2 * 0 + _ ≤ _; exact Nat.le_of_eq rfl) (hb hby at_47) (by decide) (by decide) (by decide) (by decide)
    obtain ⟨rfl, Nq105, eq105⟩ := hQ105
    have N105 := Fr.app N103 Nq105
    refine own_stW st105 ?_
    show own_goW _ _ _ _ _ _ _ _ _ _ (T105.setTop (mkF m 50 #[.val (.int p0), .val (.int p1), .val (.int p2), .val (.ref c_OUTPUT), .val (.ref r99), .val (.ref b100), .val (.int (0 : Int32)), .unset] [.null]))
    refine own_stW (fun _ k => XS.ifnonnullNo X105.here hx rfl (hb hby at_50) rfl k) ?_
    show own_goW _ _ _ _ _ _ _ _ _ _ (T105.setTop (mkF m 53 #[.val (.int p0), .val (.int p1), .val (.int p2), .val (.ref c_OUTPUT), .val (.ref r99), .val (.ref b100), .val (.int (0 : Int32)), .unset] []))
    refine own_stW (fun _ k => XS.aload X105.here hx rfl (hb hby at_53) rfl rfl k) ?_
    show own_goW _ _ _ _ _ _ _ _ _ _ (T105.setTop (mkF m 55 #[.val (.int p0), .val (.int p1), .val (.int p2), .val (.ref c_OUTPUT), .val (.ref r99), .val (.ref b100), .val (.int (0 : Int32)), .unset] [(.ref b100)]))
    obtain ⟨v106, T106, L106, X106, hQ106, st106⟩ := own_callV X105 hx hZ99 (argsL := []) (rest := []) (rm_highest l Z a0 hw b100 T101.heap n0 O101 F101_1) hown99 (hw _ (List.mem_of_getElem? (i := 70) rfl)) (hw _ (List.mem_of_getElem? (i := 71) rfl)) (notFace_of_selects (args := #[]) (mvT hZ99 (hw _ (List.mem_of_getElem? (i := 73) rfl)))) (hw _ (List.mem_of_getElem? (i := 73) rfl)) (hw _ (List.mem_of_getElem? (i := 72) rfl)) (hw _ (List.mem_of_getElem? (i := 31) rfl)) (hw _ (List.mem_of_getElem? (i := 74) rfl)) (by decide) eq105 f104 (g := (mkF m 55 #[.val (.int p0), .val (.int p1), .val (.int p2), .val (.ref c_OUTPUT), .val (.ref r99), .val (.ref b100), .val (.int (0 : Int32)), .unset] [(.ref b100)])) rfl (by rw [hml]; rfl) (lenOf own_pd__28_29Ljava_2fmath_2fBigInteger_3b rfl) rfl (W := 0) (by show 2 * 0 + _ ≤ _; exact Nat.le_of_eq rfl) (hb hby at_55) (by decide) (by decide) (by decide) (by decide)
    obtain ⟨rfl, Nq106, eq106⟩ := hQ106
    have N106 := Fr.app N105 Nq106
    refine own_stW st106 ?_
    show own_goW _ _ _ _ _ _ _ _ _ _ (T106.setTop (mkF m 58 #[.val (.int p0), .val (.int p1), .val (.int p2), .val (.ref c_OUTPUT), .val (.ref r99), .val (.ref b100), .val (.int (0 : Int32)), .unset] [.null]))
    refine own_stW (fun _ k => XS.ifnonnullNo X106.here hx rfl (hb hby at_58) rfl k) ?_
    show own_goW _ _ _ _ _ _ _ _ _ _ (T106.setTop (mkF m 61 #[.val (.int p0), .val (.int p1), .val (.int p2), .val (.ref c_OUTPUT), .val (.ref r99), .val (.ref b100), .val (.int (0 : Int32)), .unset] []))
    refine own_stW (fun _ k => XS.iconst X106.here hx rfl (hb hby at_61) k) ?_
    show own_goW _ _ _ _ _ _ _ _ _ _ (T106.setTop (mkF m 62 #[.val (.int p0), .val (.int p1), .val (.int p2), .val (.ref c_OUTPUT), .val (.ref r99), .val (.ref b100), .val (.int (0 : Int32)), .unset] [(.int (1 : Int32))]))
    refine own_stW (fun _ k => XS.goto X106.here hx rfl (pc0 := 62) (pc' := 66) rfl (hb hby at_62) (by decide) (by decide) k) ?_
    show own_goW _ _ _ _ _ _ _ _ _ _ (T106.setTop (mkF m 66 #[.val (.int p0), .val (.int p1), .val (.int p2), .val (.ref c_OUTPUT), .val (.ref r99), .val (.ref b100), .val (.int (0 : Int32)), .unset] [(.int (1 : Int32))]))
    refine own_stW (fun _ k => XS.istore X106.here hx rfl (hb hby at_66) rfl (l' := #[.val (.int p0), .val (.int p1), .val (.int p2), .val (.ref c_OUTPUT), .val (.ref r99), .val (.ref b100), .val (.int (0 : Int32)), .val (.int (1 : Int32))]) rfl k) ?_
    show own_goW _ _ _ _ _ _ _ _ _ _ (T106.setTop (mkF m 68 #[.val (.int p0), .val (.int p1), .val (.int p2), .val (.ref c_OUTPUT), .val (.ref r99), .val (.ref b100), .val (.int (0 : Int32)), .val (.int (1 : Int32))] []))
    refine own_stW (fun _ k => XS.iload X106.here hx rfl (hb hby at_68) rfl k) ?_
    show own_goW _ _ _ _ _ _ _ _ _ _ (T106.setTop (mkF m 70 #[.val (.int p0), .val (.int p1), .val (.int p2), .val (.ref c_OUTPUT), .val (.ref r99), .val (.ref b100), .val (.int (0 : Int32)), .val (.int (1 : Int32))] [(.int (0 : Int32))]))
    refine own_stW (fun _ k => XS.ifNo X106.here hx rfl (hb hby at_70) rfl (by decide) k) ?_
    show own_goW _ _ _ _ _ _ _ _ _ _ (T106.setTop (mkF m 73 #[.val (.int p0), .val (.int p1), .val (.int p2), .val (.ref c_OUTPUT), .val (.ref r99), .val (.ref b100), .val (.int (0 : Int32)), .val (.int (1 : Int32))] []))
    refine own_stW (fun _ k => XS.iload X106.here hx rfl (hb hby at_73) rfl k) ?_
    show own_goW _ _ _ _ _ _ _ _ _ _ (T106.setTop (mkF m 75 #[.val (.int p0), .val (.int p1), .val (.int p2), .val (.ref c_OUTPUT), .val (.ref r99), .val (.ref b100), .val (.int (0 : Int32)), .val (.int (1 : Int32))] [(.int (1 : Int32))]))
    refine own_stW (fun _ k => XS.ifNo X106.here hx rfl (hb hby at_75) rfl (by decide) k) ?_
    show own_goW _ _ _ _ _ _ _ _ _ _ (T106.setTop (mkF m 78 #[.val (.int p0), .val (.int p1), .val (.int p2), .val (.ref c_OUTPUT), .val (.ref r99), .val (.ref b100), .val (.int (0 : Int32)), .val (.int (1 : Int32))] []))
    refine own_stW (fun _ k => XS.iconst X106.here hx rfl (hb hby at_78) k) ?_
    show own_goW _ _ _ _ _ _ _ _ _ _ (T106.setTop (mkF m 79 #[.val (.int p0), .val (.int p1), .val (.int p2), .val (.ref c_OUTPUT), .val (.ref r99), .val (.ref b100), .val (.int (0 : Int32)), .val (.int (1 : Int32))] [(.int (1 : Int32))]))
    refine own_stW (fun _ k => XS.goto X106.here hx rfl (pc0 := 79) (pc' := 83) rfl (hb hby at_79) (by decide) (by decide) k) ?_
    show own_goW _ _ _ _ _ _ _ _ _ _ (T106.setTop (mkF m 83 #[.val (.int p0), .val (.int p1), .val (.int p2), .val (.ref c_OUTPUT), .val (.ref r99), .val (.ref b100), .val (.int (0 : Int32)), .val (.int (1 : Int32))] [(.int (1 : Int32))]))
    exact own_retNW X106 hx hlk hS99 hkk101 hZ99 hEL Ck101 eq106 (t := .boolean) hret (by simp) rfl (hb hby at_83) (by decide) (by decide) (⟨rfl, N106⟩)
  · skip
    refine own_stW (fun _ k => XS.ifNo X0.here hx rfl (hb hby at_3) rfl (XT.i0_eq_f hc97) k) ?_
    show own_goW _ _ _ _ _ _ _ _ _ _ (s₁.setTop (mkF m 6 #[.val (.int p0), .val (.int p1), .val (.int p2), .unset, .unset, .unset, .unset, .unset] []))
    obtain ⟨T107, X107, e107, st107⟩ := getS2 X0 hx hZ hown (host := "") (Or.inl (hw _ (List.mem_of_getElem? (i := 75) rfl))) Via.refl e0 (hS.2.2.1.ext O0.2) (g := (mkF m 6 #[.val (.int p0), .val (.int p1), .val (.int p2), .unset, .unset, .unset, .unset, .unset] [])) rfl (hb hby at_6)
    refine own_stW st107 ?_
    show own_goW _ _ _ _ _ _ _ _ _ _ (T107.setTop (mkF m 9 #[.val (.int p0), .val (.int p1), .val (.int p2), .unset, .unset, .unset, .unset, .unset] [(.ref c_INPUT)]))
    refine own_stW (fun _ k => XS.goto X107.here hx rfl (pc0 := 9) (pc' := 15) rfl (hb hby at_9) (by decide) (by decide) k) ?_
    show own_goW _ _ _ _ _ _ _ _ _ _ (T107.setTop (mkF m 15 #[.val (.int p0), .val (.int p1), .val (.int p2), .unset, .unset, .unset, .unset, .unset] [(.ref c_INPUT)]))
    refine own_stW (fun _ k => XS.astoreN X107.here hx rfl (hb hby at_15) rfl rfl (l' := #[.val (.int p0), .val (.int p1), .val (.int p2), .val (.ref c_INPUT), .unset, .unset, .unset, .unset]) rfl k) ?_
    show own_goW _ _ _ _ _ _ _ _ _ _ (T107.setTop (mkF m 16 #[.val (.int p0), .val (.int p1), .val (.int p2), .val (.ref c_INPUT), .unset, .unset, .unset, .unset] []))
    refine own_stW (fun _ k => XS.iloadN X107.here hx rfl (hb hby at_16) rfl k) ?_
    show own_goW _ _ _ _ _ _ _ _ _ _ (T107.setTop (mkF m 17 #[.val (.int p0), .val (.int p1), .val (.int p2), .val (.ref c_INPUT), .unset, .unset, .unset, .unset] [(.int p0)]))
    refine own_stW (fun _ k => XS.iconst X107.here hx rfl (hb hby at_17) k) ?_
    show own_goW _ _ _ _ _ _ _ _ _ _ (T107.setTop (mkF m 18 #[.val (.int p0), .val (.int p1), .val (.int p2), .val (.ref c_INPUT), .unset, .unset, .unset, .unset] [(.int (1 : Int32)), (.int p0)]))
    refine own_stW (fun _ k => XS.iushr X107.here hx rfl (hb hby at_18) rfl k) ?_
    show own_goW _ _ _ _ _ _ _ _ _ _ (T107.setTop (mkF m 19 #[.val (.int p0), .val (.int p1), .val (.int p2), .val (.ref c_INPUT), .unset, .unset, .unset, .unset] [(.int ((p0.toUInt32 >>> ((1 : Int32) &&& 31).toUInt32).toInt32))]))
    refine own_stW (fun _ k => XS.iloadN X107.here hx rfl (hb hby at_19) rfl k) ?_
    show own_goW _ _ _ _ _ _ _ _ _ _ (T107.setTop (mkF m 20 #[.val (.int p0), .val (.int p1), .val (.int p2), .val (.ref c_INPUT), .unset, .unset, .unset, .unset] [(.int p1), (.int ((p0.toUInt32 >>> ((1 : Int32) &&& 31).toUInt32).toInt32))]))
    refine own_stW (fun _ k => XS.iloadN X107.here hx rfl (hb hby at_20) rfl k) ?_
    show own_goW _ _ _ _ _ _ _ _ _ _ (T107.setTop (mkF m 21 #[.val (.int p0), .val (.int p1), .val (.int p2), .val (.ref c_INPUT), .unset, .unset, .unset, .unset] [(.int p2), (.int p1), (.int ((p0.toUInt32 >>> ((1 : Int32) &&& 31).toUInt32).toInt32))]))
    obtain ⟨v108, T108, L108, X108, hS108, hZ108, hown108, CH108, hQ108, st108⟩ := own_callSW X107 hx hZ hS0 hk0 hEL C0.1 (argsL := [(.int ((p0.toUInt32 >>> ((1 : Int32) &&& 31).toUInt32).toInt32)), (.int p1), (.int p2)]) (rest := []) (rm_dn l Z a0 hw ((p0.toUInt32 >>> ((1 : Int32) &&& 31).toUInt32).toInt32) p1 p2 c_OUTPUT c_INPUT z_COMPACT_STRINGS h0 n0 O0 hS) hown (hw _ (List.mem_of_getElem? (i := 3) rfl)) (hw _ (List.mem_of_getElem? (i := 4) rfl)) (hw _ (List.mem_of_getElem? (i := 5) rfl)) (hw _ (List.mem_of_getElem? (i := 6) rfl)) (by decide) e107 (g := (mkF m 21 #[.val (.int p0), .val (.int p1), .val (.int p2), .val (.ref c_INPUT), .unset, .unset, .unset, .unset] [(.int p2), (.int p1), (.int ((p0.toUInt32 >>> ((1 : Int32) &&& 31).toUInt32).toInt32))])) rfl (by rw [hml]; rfl) (lenOf own_pd__28III_29Ljava_2flang_2fString_3b rfl) rfl (W := 0) (by show 2 * 0 + _ ≤ _; exact Nat.le_of_eq rfl) (hb hby at_21) (by decide) (by decide) (by decide) (by decide)
    obtain ⟨r108, rfl, Nq108, Kq108, sz108, A108⟩ := hQ108
    have N108 := Fr.app N0 Nq108
    have O108 := O0.keep Kq108 all0
    have K108 := K0.trans Kq108 all0
    have C108 := C0.trans CH108
    have hk108 := Nat.le_refl T108.heap.size
    refine own_stW st108 ?_
    show own_goW _ _ _ _ _ _ _ _ _ _ (T108.setTop (mkF m 24 #[.val (.int p0), .val (.int p1), .val (.int p2), .val (.ref c_INPUT), .unset, .unset, .unset, .unset] [(.ref r108)]))
    refine own_stW (fun _ k => XS.astore X108.here hx rfl (hb hby at_24) rfl rfl (l' := #[.val (.int p0), .val (.int p1), .val (.int p2), .val (.ref c_INPUT), .val (.ref r108), .unset, .unset, .unset]) rfl k) ?_
    show own_goW _ _ _ _ _ _ _ _ _ _ (T108.setTop (mkF m 26 #[.val (.int p0), .val (.int p1), .val (.int p2), .val (.ref c_INPUT), .val (.ref r108), .unset, .unset, .unset] []))
    obtain ⟨T109, h109, X109, e109, E109, A109, D109, -, st109⟩ := newO X108 hx hZ108 hown108 (hw _ (List.mem_of_getElem? (i := 29) rfl)) (hw _ (List.mem_of_getElem? (i := 30) rfl)) (hw _ (List.mem_of_getElem? (i := 31) rfl)) rfl (g := (mkF m 26 #[.val (.int p0), .val (.int p1), .val (.int p2), .val (.ref c_INPUT), .val (.ref r108), .unset, .unset, .unset] [])) rfl (hb hby at_26) (by decide) (by decide)
    obtain ⟨b109, g109⟩ : ∃ z, z = T108.heap.size := ⟨_, rfl⟩
    rw [← g109] at A109 D109 st109
    have ge_b109 : n0 ≤ b109 := by rw [g109]; exact own_osz O108
    have sz_b109 : h0.size ≤ b109 := by rw [g109]; exact K108.1
    have ne_r108_b109 : r108 ≠ b109 := (fun q => absurd A108.lt (by rw [q, g109]; exact Nat.lt_irrefl _))
    have O109 := O108.ext E109
    have K109 := K108.ext E109
    have Ce109 := C108.trans (CHr.ext E109 C108.1)
    have hke109 := Nat.le_trans hk108 E109.1
    refine own_stW st109 ?_
    show own_goW _ _ _ _ _ _ _ _ _ _ (T109.setTop (mkF m 29 #[.val (.int p0), .val (.int p1), .val (.int p2), .val (.ref c_INPUT), .val (.ref r108), .unset, .unset, .unset] [(.ref b109)]))
    refine own_stW (fun _ k => XS.dup X109.here hx rfl (hb hby at_29) rfl rfl k) ?_
    show own_goW _ _ _ _ _ _ _ _ _ _ (T109.setTop (mkF m 30 #[.val (.int p0), .val (.int p1), .val (.int p2), .val (.ref c_INPUT), .val (.ref r108), .unset, .unset, .unset] [(.ref b109), (.ref b109)]))
    refine own_stW (fun _ k => XS.aload X109.here hx rfl (hb hby at_30) rfl rfl k) ?_
    show own_goW _ _ _ _ _ _ _ _ _ _ (T109.setTop (mkF m 32 #[.val (.int p0), .val (.int p1), .val (.int p2), .val (.ref c_INPUT), .val (.ref r108), .unset, .unset, .unset] [(.ref r108), (.ref b109), (.ref b109)]))
    refine own_stW (fun _ k => XS.aloadN X109.here hx rfl (hb hby at_32) rfl rfl k) ?_
    show own_goW _ _ _ _ _ _ _ _ _ _ (T109.setTop (mkF m 33 #[.val (.int p0), .val (.int p1), .val (.int p2), .val (.ref c_INPUT), .val (.ref r108), .unset, .unset, .unset] [(.ref c_INPUT), (.ref r108), (.ref b109), (.ref b109)]))
    have f111 := (A108.ext E109)
    obtain ⟨v110, T110, L110, X110, hQ110, st110⟩ := own_callN X109 hx hZ108 (argsL := [(.ref r108), (.ref c_INPUT)]) (rest := [(.ref b109)]) (rm_vi_0 l Z a0 hw b109 r108 c_OUTPUT c_INPUT z_COMPACT_STRINGS h109 n0 O109 hS ge_b109 A109 (D109 (Or.inr (hw _ (List.mem_of_getElem? (i := 42) rfl))) (ty := (.object "java/lang/String")) (by decide)) (D109 (Or.inr (hw _ (List.mem_of_getElem? (i := 55) rfl))) (ty := (.object "com/example/bridgr/bridgr/spec/Section")) (by decide)) (D109 (Or.inr (hw _ (List.mem_of_getElem? (i := 57) rfl))) (ty := (.object "java/math/BigInteger")) (by decide)) (D109 (Or.inr (hw _ (List.mem_of_getElem? (i := 59) rfl))) (ty := (.object "java/math/BigInteger")) (by decide)) f111) rfl hown108 (hw _ (List.mem_of_getElem? (i := 32) rfl)) (hw _ (List.mem_of_getElem? (i := 33) rfl)) (hw _ (List.mem_of_getElem? (i := 31) rfl)) (hw _ (List.mem_of_getElem? (i := 34) rfl)) (by decide) e109 (g := (mkF m 33 #[.val (.int p0), .val (.int p1), .val (.int p2), .val (.ref c_INPUT), .val (.ref r108), .unset, .unset, .unset] [(.ref c_INPUT), (.ref r108), (.ref b109), (.ref b109)])) rfl (by rw [hml]; rfl) (lenOf own_pd__28Ljava_2flang_2fString_3bLcom_2fexample_2fbridgr_2fbridgr_2fspec_2fSection_3b_29V rfl) rfl (W := 1) (by show 2 * 0 + _ ≤ _; exact Nat.le_of_eq rfl) (hb hby at_33) (by decide) (by decide) (by decide) (by decide)
    obtain ⟨rfl, Nq110, Kq110, F110_0, F110_1⟩ := hQ110
    have N110 := Fr.app N108 Nq110
    have Ck110 := Ce109.trans (CHr.keep Kq110 (allS (Safe.exa hZ108.alike A109 (by decide) (by decide)) all0) Ce109.1)
    have hkk110 := Nat.le_trans hke109 Kq110.1
    have O110 := O109.keep Kq110 (allS ge_b109 all0)
    have K110 := K109.trans Kq110 (allS (Or.inr sz_b109) all0)
    refine own_stW st110 ?_
    show own_goW _ _ _ _ _ _ _ _ _ _ (T110.setTop (mkF m 36 #[.val (.int p0), .val (.int p1), .val (.int p2), .val (.ref c_INPUT), .val (.ref r108), .unset, .unset, .unset] [(.ref b109)]))
    refine own_stW (fun _ k => XS.astore X110.here hx rfl (hb hby at_36) rfl rfl (l' := #[.val (.int p0), .val (.int p1), .val (.int p2), .val (.ref c_INPUT), .val (.ref r108), .val (.ref b109), .unset, .unset]) rfl k) ?_
    show own_goW _ _ _ _ _ _ _ _ _ _ (T110.setTop (mkF m 38 #[.val (.int p0), .val (.int p1), .val (.int p2), .val (.ref c_INPUT), .val (.ref r108), .val (.ref b109), .unset, .unset] []))
    refine own_stW (fun _ k => XS.aload X110.here hx rfl (hb hby at_38) rfl rfl k) ?_
    show own_goW _ _ _ _ _ _ _ _ _ _ (T110.setTop (mkF m 40 #[.val (.int p0), .val (.int p1), .val (.int p2), .val (.ref c_INPUT), .val (.ref r108), .val (.ref b109), .unset, .unset] [(.ref b109)]))
    have f113 := (A109.keep Kq110)
    obtain ⟨v112, T112, L112, X112, hQ112, st112⟩ := own_callV X110 hx hZ108 (argsL := []) (rest := []) (rm_isInteger l Z a0 hw b109 T110.heap n0 O110 F110_0) hown108 (hw _ (List.mem_of_getElem? (i := 60) rfl)) (hw _ (List.mem_of_getElem? (i := 61) rfl)) (notFace_of_selects (args := #[]) (mvT hZ108 (hw _ (List.mem_of_getElem? (i := 63) rfl)))) (hw _ (List.mem_of_getElem? (i := 63) rfl)) (hw _ (List.mem_of_getElem? (i := 62) rfl)) (hw _ (List.mem_of_getElem? (i := 31) rfl)) (hw _ (List.mem_of_getElem? (i := 64) rfl)) (by decide) rfl f113 (g := (mkF m 40 #[.val (.int p0), .val (.int p1), .val (.int p2), .val (.ref c_INPUT), .val (.ref r108), .val (.ref b109), .unset, .unset] [(.ref b109)])) rfl (by rw [hml]; rfl) (lenOf own_pd__28_29Z rfl) rfl (W := 0) (by show 2 * 0 + _ ≤ _; exact Nat.le_of_eq rfl) (hb hby at_40) (by decide) (by decide) (by decide) (by decide)
    obtain ⟨rfl, Nq112, eq112⟩ := hQ112
    have N112 := Fr.app N110 Nq112
    refine own_stW st112 ?_
    show own_goW _ _ _ _ _ _ _ _ _ _ (T112.setTop (mkF m 43 #[.val (.int p0), .val (.int p1), .val (.int p2), .val (.ref c_INPUT), .val (.ref r108), .val (.ref b109), .unset, .unset] [(.int (0 : Int32))]))
    refine own_stW (fun _ k => XS.istore X112.here hx rfl (hb hby at_43) rfl (l' := #[.val (.int p0), .val (.int p1), .val (.int p2), .val (.ref c_INPUT), .val (.ref r108), .val (.ref b109), .val (.int (0 : Int32)), .unset]) rfl k) ?_
    show own_goW _ _ _ _ _ _ _ _ _ _ (T112.setTop (mkF m 45 #[.val (.int p0), .val (.int p1), .val (.int p2), .val (.ref c_INPUT), .val (.ref r108), .val (.ref b109), .val (.int (0 : Int32)), .unset] []))
    refine own_stW (fun _ k => XS.aload X112.here hx rfl (hb hby at_45) rfl rfl k) ?_
    show own_goW _ _ _ _ _ _ _ _ _ _ (T112.setTop (mkF m 47 #[.val (.int p0), .val (.int p1), .val (.int p2), .val (.ref c_INPUT), .val (.ref r108), .val (.ref b109), .val (.int (0 : Int32)), .unset] [(.ref b109)]))
    obtain ⟨v114, T114, L114, X114, hQ114, st114⟩ := own_callV X112 hx hZ108 (argsL := []) (rest := []) (rm_lowest l Z a0 hw b109 T110.heap n0 O110 F110_0) hown108 (hw _ (List.mem_of_getElem? (i := 65) rfl)) (hw _ (List.mem_of_getElem? (i := 66) rfl)) (notFace_of_selects (args := #[]) (mvT hZ108 (hw _ (List.mem_of_getElem? (i := 68) rfl)))) (hw _ (List.mem_of_getElem? (i := 68) rfl)) (hw _ (List.mem_of_getElem? (i := 67) rfl)) (hw _ (List.mem_of_getElem? (i := 31) rfl)) (hw _ (List.mem_of_getElem? (i := 69) rfl)) (by decide) eq112 f113 (g := (mkF m 47 #[.val (.int p0), .val (.int p1), .val (.int p2), .val (.ref c_INPUT), .val (.ref r108), .val (.ref b109), .val (.int (0 : Int32)), .unset] [(.ref b109)])) rfl (by rw [hml]; rfl) (lenOf own_pd__28_29Ljava_2fmath_2fBigInteger_3b rfl) rfl (W := 0) (by show 2 * 0 + _ ≤ _; exact Nat.le_of_eq rfl) (hb hby at_47) (by decide) (by decide) (by decide) (by decide)
    obtain ⟨rfl, Nq114, eq114⟩ := hQ114
    have N114 := Fr.app N112 Nq114
    refine own_stW st114 ?_
    show own_goW _ _ _ _ _ _ _ _ _ _ (T114.setTop (mkF m 50 #[.val (.int p0), .val (.int p1), .val (.int p2), .val (.ref c_INPUT), .val (.ref r108), .val (.ref b109), .val (.int (0 : Int32)), .unset] [.null]))
    refine own_stW (fun _ k => XS.ifnonnullNo X114.here hx rfl (hb hby at_50) rfl k) ?_
    show own_goW _ _ _ _ _ _ _ _ _ _ (T114.setTop (mkF m 53 #[.val (.int p0), .val (.int p1), .val (.int p2), .val (.ref c_INPUT), .val (.ref r108), .val (.ref b109), .val (.int (0 : Int32)), .unset] []))
    refine own_stW (fun _ k => XS.aload X114.here hx rfl (hb hby at_53) rfl rfl k) ?_
    show own_goW _ _ _ _ _ _ _ _ _ _ (T114.setTop (mkF m 55 #[.val (.int p0), .val (.int p1), .val (.int p2), .val (.ref c_INPUT), .val (.ref r108), .val (.ref b109), .val (.int (0 : Int32)), .unset] [(.ref b109)]))
    obtain ⟨v115, T115, L115, X115, hQ115, st115⟩ := own_callV X114 hx hZ108 (argsL := []) (rest := []) (rm_highest l Z a0 hw b109 T110.heap n0 O110 F110_1) hown108 (hw _ (List.mem_of_getElem? (i := 70) rfl)) (hw _ (List.mem_of_getElem? (i := 71) rfl)) (notFace_of_selects (args := #[]) (mvT hZ108 (hw _ (List.mem_of_getElem? (i := 73) rfl)))) (hw _ (List.mem_of_getElem? (i := 73) rfl)) (hw _ (List.mem_of_getElem? (i := 72) rfl)) (hw _ (List.mem_of_getElem? (i := 31) rfl)) (hw _ (List.mem_of_getElem? (i := 74) rfl)) (by decide) eq114 f113 (g := (mkF m 55 #[.val (.int p0), .val (.int p1), .val (.int p2), .val (.ref c_INPUT), .val (.ref r108), .val (.ref b109), .val (.int (0 : Int32)), .unset] [(.ref b109)])) rfl (by rw [hml]; rfl) (lenOf own_pd__28_29Ljava_2fmath_2fBigInteger_3b rfl) rfl (W := 0) (by show 2 * 0 + _ ≤ _; exact Nat.le_of_eq rfl) (hb hby at_55) (by decide) (by decide) (by decide) (by decide)
    obtain ⟨rfl, Nq115, eq115⟩ := hQ115
    have N115 := Fr.app N114 Nq115
    refine own_stW st115 ?_
    show own_goW _ _ _ _ _ _ _ _ _ _ (T115.setTop (mkF m 58 #[.val (.int p0), .val (.int p1), .val (.int p2), .val (.ref c_INPUT), .val (.ref r108), .val (.ref b109), .val (.int (0 : Int32)), .unset] [.null]))
    refine own_stW (fun _ k => XS.ifnonnullNo X115.here hx rfl (hb hby at_58) rfl k) ?_
    show own_goW _ _ _ _ _ _ _ _ _ _ (T115.setTop (mkF m 61 #[.val (.int p0), .val (.int p1), .val (.int p2), .val (.ref c_INPUT), .val (.ref r108), .val (.ref b109), .val (.int (0 : Int32)), .unset] []))
    refine own_stW (fun _ k => XS.iconst X115.here hx rfl (hb hby at_61) k) ?_
    show own_goW _ _ _ _ _ _ _ _ _ _ (T115.setTop (mkF m 62 #[.val (.int p0), .val (.int p1), .val (.int p2), .val (.ref c_INPUT), .val (.ref r108), .val (.ref b109), .val (.int (0 : Int32)), .unset] [(.int (1 : Int32))]))
    refine own_stW (fun _ k => XS.goto X115.here hx rfl (pc0 := 62) (pc' := 66) rfl (hb hby at_62) (by decide) (by decide) k) ?_
    show own_goW _ _ _ _ _ _ _ _ _ _ (T115.setTop (mkF m 66 #[.val (.int p0), .val (.int p1), .val (.int p2), .val (.ref c_INPUT), .val (.ref r108), .val (.ref b109), .val (.int (0 : Int32)), .unset] [(.int (1 : Int32))]))
    refine own_stW (fun _ k => XS.istore X115.here hx rfl (hb hby at_66) rfl (l' := #[.val (.int p0), .val (.int p1), .val (.int p2), .val (.ref c_INPUT), .val (.ref r108), .val (.ref b109), .val (.int (0 : Int32)), .val (.int (1 : Int32))]) rfl k) ?_
    show own_goW _ _ _ _ _ _ _ _ _ _ (T115.setTop (mkF m 68 #[.val (.int p0), .val (.int p1), .val (.int p2), .val (.ref c_INPUT), .val (.ref r108), .val (.ref b109), .val (.int (0 : Int32)), .val (.int (1 : Int32))] []))
    refine own_stW (fun _ k => XS.iload X115.here hx rfl (hb hby at_68) rfl k) ?_
    show own_goW _ _ _ _ _ _ _ _ _ _ (T115.setTop (mkF m 70 #[.val (.int p0), .val (.int p1), .val (.int p2), .val (.ref c_INPUT), .val (.ref r108), .val (.ref b109), .val (.int (0 : Int32)), .val (.int (1 : Int32))] [(.int (0 : Int32))]))
    refine own_stW (fun _ k => XS.ifNo X115.here hx rfl (hb hby at_70) rfl (by decide) k) ?_
    show own_goW _ _ _ _ _ _ _ _ _ _ (T115.setTop (mkF m 73 #[.val (.int p0), .val (.int p1), .val (.int p2), .val (.ref c_INPUT), .val (.ref r108), .val (.ref b109), .val (.int (0 : Int32)), .val (.int (1 : Int32))] []))
    refine own_stW (fun _ k => XS.iload X115.here hx rfl (hb hby at_73) rfl k) ?_
    show own_goW _ _ _ _ _ _ _ _ _ _ (T115.setTop (mkF m 75 #[.val (.int p0), .val (.int p1), .val (.int p2), .val (.ref c_INPUT), .val (.ref r108), .val (.ref b109), .val (.int (0 : Int32)), .val (.int (1 : Int32))] [(.int (1 : Int32))]))
    refine own_stW (fun _ k => XS.ifNo X115.here hx rfl (hb hby at_75) rfl (by decide) k) ?_
    show own_goW _ _ _ _ _ _ _ _ _ _ (T115.setTop (mkF m 78 #[.val (.int p0), .val (.int p1), .val (.int p2), .val (.ref c_INPUT), .val (.ref r108), .val (.ref b109), .val (.int (0 : Int32)), .val (.int (1 : Int32))] []))
    refine own_stW (fun _ k => XS.iconst X115.here hx rfl (hb hby at_78) k) ?_
    show own_goW _ _ _ _ _ _ _ _ _ _ (T115.setTop (mkF m 79 #[.val (.int p0), .val (.int p1), .val (.int p2), .val (.ref c_INPUT), .val (.ref r108), .val (.ref b109), .val (.int (0 : Int32)), .val (.int (1 : Int32))] [(.int (1 : Int32))]))
    refine own_stW (fun _ k => XS.goto X115.here hx rfl (pc0 := 79) (pc' := 83) rfl (hb hby at_79) (by decide) (by decide) k) ?_
    show own_goW _ _ _ _ _ _ _ _ _ _ (T115.setTop (mkF m 83 #[.val (.int p0), .val (.int p1), .val (.int p2), .val (.ref c_INPUT), .val (.ref r108), .val (.ref b109), .val (.int (0 : Int32)), .val (.int (1 : Int32))] [(.int (1 : Int32))]))
    exact own_retNW X115 hx hlk hS108 hkk110 hZ108 hEL Ck110 eq115 (t := .boolean) hret (by simp) rfl (hb hby at_83) (by decide) (by decide) (⟨rfl, N115⟩)
set_option maxRecDepth 65536 in
set_option maxHeartbeats 40000000 in
theorem comes_1 {Post : Tables → Env → Array Value → State → Outcome → State → Prop} (hpost : ∀ tb e args s v u, (limb_1_1.after args s (.returned v) u = true ∧ limb_1_2.after args s (.returned v) u = true ∧ True) → ReturnedEndW s (.returned v) u (Jvm.fieldLocs frame_1_writes args s ++ Jvm.arrayLocs frame_1_arrays args s ++ Jvm.staticLocs frame_1_statics s) 24 1152 → Post tb e args s (.returned v) u) :
    ArmFor flags0 classFile x code maxLocals ret World_1 tables_1 room_1 Calls_1 rest_1 Pre_1 Post := by
  intro l hfl _ _ p e ha hc hk s m args below hf hA hF happ hP
  obtain ⟨hcalls, hrest, hpre⟩ := hP
  obtain ⟨-, -, -, hnamed, -, -, -, hat⟩ := (Spec.applies_iff hf).mp happ
  obtain ⟨hg, hn⟩ := and_e (Cond.before_iff.mp (show (Jvm.Cond.and given_1 narrow_1).before args s = true from hpre))
  obtain ⟨h1, hg0⟩ := and_e hg
  obtain ⟨w0, w1, w2, rfl⟩ : ∃ w0 w1 w2 : Value, args = #[w0, w1, w2] := by
    have hs : args.size = 3 := by simpa [Cond.value, given_1] using h1
    obtain ⟨L⟩ := args
    match L, hs with
    | [w0, w1, w2], _ => exact ⟨w0, w1, w2, rfl⟩
  have hw := fun d (hd : d ∈ tables_1) => atoms_spec (ws := Jvm.Cond.code x code maxLocals ret :: tables_1) hat d (List.mem_cons_of_mem _ hd)
  obtain ⟨ha0, hg1⟩ := and_e hg0
  obtain ⟨i0, e0⟩ := is_v ha0
  obtain rfl : w0 = (.int i0) := Option.some.inj e0
  obtain ⟨ha1, hg2⟩ := and_e hg1
  obtain ⟨i1, e1⟩ := is_v ha1
  obtain rfl : w1 = (.int i1) := Option.some.inj e1
  obtain ⟨i2, e2⟩ := is_v hg2
  obtain rfl : w2 = (.int i2) := Option.some.inj e2
  obtain ⟨hsets, hown0⟩ := atoms_of _ (rest_1_c_eq ▸ (show rest_1_c.before _ s = true from hrest))
  have hfit : Fit s := fun {y c} hc i hi => by
    obtain ⟨ha, rfl⟩ := Array.getElem?_eq_some_iff.mp hc
    have q := List.all_eq_true.mp ((Array.all_eq_true_iff_forall_mem.mp hF) _ (Array.getElem_mem ha)) i (List.mem_range.mpr hi)
    simpa [Array.getElem?_eq_getElem hi] using q
  obtain ⟨n1, r1⟩ := and_e hn
  obtain ⟨n2, r2⟩ := and_e r1
  obtain ⟨n3, r3⟩ := and_e r2
  have n4 := r3
  obtain ⟨c_OUTPUT, v_c_OUTPUT⟩ := exa_v n1
  have E_c_OUTPUT := Exa.start v_c_OUTPUT n1
  have S_c_OUTPUT := Sta.start v_c_OUTPUT (Or.inr ⟨(hw _ (List.mem_of_getElem? (i := 1) rfl)), (hw _ (List.mem_of_getElem? (i := 2) rfl))⟩)
  obtain ⟨c_INPUT, v_c_INPUT⟩ := exa_v n2
  have E_c_INPUT := Exa.start v_c_INPUT n2
  have S_c_INPUT := Sta.start v_c_INPUT (Or.inr ⟨(hw _ (List.mem_of_getElem? (i := 1) rfl)), (hw _ (List.mem_of_getElem? (i := 52) rfl))⟩)
  have F_c_OUTPUT_ordinal := own_fldI v_c_OUTPUT n3
  have F_c_INPUT_ordinal := own_fldI v_c_INPUT n4
  have m1 := Cond.before_iff.mp (hsets _ (List.mem_of_getElem? (i := 1) rfl))
  obtain ⟨z_COMPACT_STRINGS, v_z_COMPACT_STRINGS⟩ := is_v m1
  have S_z_COMPACT_STRINGS := Sta.start v_z_COMPACT_STRINGS (Or.inl (hsets _ (List.mem_of_getElem? (i := 0) rfl)))
  have m2 := Cond.before_iff.mp (hsets _ (List.mem_of_getElem? (i := 2) rfl))
  have nz_z_COMPACT_STRINGS := own_nz v_z_COMPACT_STRINGS m2
  have m8 := Cond.before_iff.mp (hsets _ (List.mem_of_getElem? (i := 8) rfl))
  have hS : own_S s c_OUTPUT c_INPUT z_COMPACT_STRINGS := ⟨S_c_OUTPUT, E_c_OUTPUT, S_c_INPUT, E_c_INPUT, F_c_OUTPUT_ordinal, F_c_INPUT_ordinal, S_z_COMPACT_STRINGS, nz_z_COMPACT_STRINGS⟩

  have hCH : CHv s consts_1 s.vm s.heap := CHv.start (own_EW hw) (fun p hp => hcalls.1 p hp) (show Jvm.Lit.compactW.before _ s = true from hsets _ (List.mem_of_getElem? (i := 2) rfl)) (hw _ (List.mem_of_getElem? (i := 22) rfl)) (hw _ (List.mem_of_getElem? (i := 8) rfl))
  obtain ⟨n, o, h1, h2, h3, _, L, rfl, ⟨rfl, N⟩, -, hq⟩ := rm0 l s _ hw tables_1 i0 i1 i2 c_OUTPUT c_INPUT z_COMPACT_STRINGS s.heap s.heap.size (Old.start s) hS p e ha hc hk s m _ below hf ((Spec.applies_iff_loose hf).mp happ).1 ⟨rfl, State.Warmed39.refl s, rfl, hCH⟩ trivial
  refine ⟨n, _, h1, h2, h3, hpost _ _ _ _ _ _ ⟨Cond.after_iff.mpr rfl, Cond.after_iff.mpr (eq_i res_at (Term.int_eval (1)) rfl), trivial⟩ ⟨hq.1, hq.2.1, hq.2.2.1, (hq.2.2.2.sift fun y hy => Or.inr (N y hy)).mono (by decide) (by decide)⟩⟩
theorem main_1_1 : Claimed_1_1 := comes_1 fun _ _ _ _ _ _ h hF => ⟨h.1, hF⟩
theorem main_1_2 : Claimed_1_2 := comes_1 fun _ _ _ _ _ _ h hF => ⟨h.2.1, hF⟩
end Jvm.Pilot.@@N@@
namespace Jvm.Pilot.@@N@@
open Jvm Jvm.ClassFile Sem Op Lib Jvm.Free Jvm.Stand Jvm.Pilot.@@N@@.Jvm.D
/-! MADE BY PROGRAM (witnessworld.py) out of the Statement's table words and the real class files: 23 classes; the members and pool entries that the words name. The judged class is class 1, her method 2. -/
namespace start1
open Jvm.ClassFile
def u (s : String) : CpInfo := .utf8 (stringToUtf16 s)
/-- a pool by its gaps: so many unusable entries, then the entry; so many at the end -/
def gap : Nat → List CpInfo → List CpInfo
  | 0, r => r
  | n + 1, r => .unusable :: gap n r
def poolList (es : List (Nat × CpInfo)) (last : Nat) : List CpInfo := es.foldr (fun e r => gap e.1 (e.2 :: r)) (gap last [])
def pool (es : List (Nat × CpInfo)) (last : Nat) : Array CpInfo := ⟨poolList es last⟩
def fileOf (pool : Array CpInfo) (this : Nat) (attrs : Array Attribute := #[]) (ms : Array MethodInfo := #[]) (fl : Nat := 33) (sup : Nat := 0) (ifs : Array Nat := #[]) (fds : Array FieldInfo := #[]) : ClassFile where
  minorVersion := 0
  majorVersion := 65
  constantPool := pool
  accessFlags := fl
  thisClass := this
  superClass := sup
  interfaces := ifs
  fields := fds
  methods := ms
  attributes := attrs
def plain (name : String) (sup : Option ClassId) : Class where
  name := name
  kind := .ordinary
  loader := none
  accessFlags := 33
  super := sup
  interfaces := #[]
  cf := none
  fields := #[]
  methods := #[]
  instanceTypes := #[]
  staticTypes := #[]
  resolved := #[]
  callSites := []
  init := .initialized
  statics := none
  mirror := none

def pool0 : Array CpInfo := pool [(5, u "<init>"), (0, u "()V"), (1, .class_ 10), (1, u "java/lang/Object")] 113

def k0c0 : Code := { maxStack := 0, maxLocals := 1, code := object_method_1_code, exceptionTable := #[], attributes := #[] }
def k0m0 : Method := { name := "<init>", desc := "()V", sig := { parameters := [], returnType := none }, accessFlags := 1, code := some k0c0 }
/-- java/lang/Object -/
def k0 : Class := { plain "java/lang/Object" none with
  accessFlags := 33
  interfaces := #[]
  cf := some (fileOf pool0 8 #[] #[{ accessFlags := 1, nameIndex := 5, descriptorIndex := 6, attributes := #[] }] 33 0 #[] #[])
  fields := #[]
  methods := #[k0m0]
  instanceTypes := #[]
  staticTypes := #[]
  resolved := Array.replicate 124 none
  statics := none }

def pool1 : Array CpInfo := pool [(2, .class_ 4), (1, u "java/lang/Object"), (0, u "<init>"), (0, u "()V"), (0, .class_ 8), (0, u "java/lang/String"), (0, .methodref 7 10), (0, .nameAndType 5 11), (0, u "([C)V"), (0, .fieldref 13 14), (0, .class_ 15), (0, .nameAndType 16 17), (0, u "com/example/bridgr/bridgr/spec/Section"), (0, u "INPUT"), (0, u "Lcom/example/bridgr/bridgr/spec/Section;"), (0, .fieldref 13 19), (0, .nameAndType 20 17), (0, u "OUTPUT"), (0, .methodref 22 23), (0, .class_ 24), (0, .nameAndType 25 26), (0, u "com/example/bridgr/bridgr/spec/VariableIsIntegerPinLaw"), (0, u "drawName"), (0, u "(III)Ljava/lang/String;"), (0, .class_ 28), (0, u "com/example/bridgr/bridgr/spec/Variable"), (0, .methodref 27 30), (0, .nameAndType 5 31), (0, u "(Ljava/lang/String;Lcom/example/bridgr/bridgr/spec/Section;)V"), (0, .methodref 27 33), (0, .nameAndType 34 35), (0, u "isInteger"), (0, u "()Z"), (0, .methodref 27 37), (0, .nameAndType 38 39), (0, u "lowest"), (0, u "()Ljava/math/BigInteger;"), (0, .methodref 27 41), (0, .nameAndType 42 39), (0, u "highest"), (3, u "law"), (0, u "(III)Z")] 2

def k1m0 : Method := { name := "<init>", desc := "()V", sig := { parameters := [], returnType := none }, accessFlags := 1, code := none }
def k1c1 : Code := { maxStack := 3, maxLocals := 8, code := method_2_code, exceptionTable := #[], attributes := #[] }
def k1m1 : Method := { name := "drawName", desc := "(III)Ljava/lang/String;", sig := { parameters := [.int, .int, .int], returnType := some (.object "java/lang/String") }, accessFlags := 10, code := some k1c1 }
def k1c2 : Code := { maxStack := 4, maxLocals := 8, code := code, exceptionTable := #[], attributes := #[] }
def k1m2 : Method := { name := "law", desc := "(III)Z", sig := { parameters := [.int, .int, .int], returnType := some .boolean }, accessFlags := 9, code := some k1c2 }
/-- com/example/bridgr/bridgr/spec/VariableIsIntegerPinLaw -/
def k1 : Class := { plain "com/example/bridgr/bridgr/spec/VariableIsIntegerPinLaw" (some 0) with
  accessFlags := 49
  interfaces := #[]
  cf := some (fileOf pool1 22 #[] #[{ accessFlags := 1, nameIndex := 5, descriptorIndex := 6, attributes := #[] }, { accessFlags := 10, nameIndex := 25, descriptorIndex := 26, attributes := #[] }, { accessFlags := 9, nameIndex := 46, descriptorIndex := 47, attributes := #[] }] 49 2 #[] #[])
  fields := #[]
  methods := #[k1m0, k1m1, k1m2]
  instanceTypes := #[]
  staticTypes := #[]
  resolved := Array.replicate 50 none
  statics := none }

def pool2 : Array CpInfo := pool [(1, .class_ 2), (0, u "java/lang/constant/Constable"), (0, .class_ 4), (0, u "java/lang/Object")] 6

/-- java/lang/constant/Constable -/
def k2 : Class := { plain "java/lang/constant/Constable" (some 0) with
  accessFlags := 1537
  interfaces := #[]
  cf := some (fileOf pool2 1 #[] #[] 1537 3 #[] #[])
  fields := #[]
  methods := #[]
  instanceTypes := #[]
  staticTypes := #[]
  resolved := Array.replicate 11 none
  statics := none }

def pool3 : Array CpInfo := pool [(1, .class_ 2), (0, u "java/lang/Comparable"), (0, .class_ 4), (0, u "java/lang/Object")] 7

/-- java/lang/Comparable -/
def k3 : Class := { plain "java/lang/Comparable" (some 0) with
  accessFlags := 1537
  interfaces := #[]
  cf := some (fileOf pool3 1 #[] #[] 1537 3 #[] #[])
  fields := #[]
  methods := #[]
  instanceTypes := #[]
  staticTypes := #[]
  resolved := Array.replicate 12 none
  statics := none }

def pool4 : Array CpInfo := pool [(1, .class_ 2), (0, u "java/io/Serializable"), (0, .class_ 4), (0, u "java/lang/Object")] 2

/-- java/io/Serializable -/
def k4 : Class := { plain "java/io/Serializable" (some 0) with
  accessFlags := 1537
  interfaces := #[]
  cf := some (fileOf pool4 1 #[] #[] 1537 3 #[] #[])
  fields := #[]
  methods := #[]
  instanceTypes := #[]
  staticTypes := #[]
  resolved := Array.replicate 7 none
  statics := none }

def pool5 : Array CpInfo := pool [(2, .class_ 4), (1, u "java/lang/Enum"), (0, u "name"), (0, u "Ljava/lang/String;"), (2, u "ordinal"), (0, u "I"), (1, .class_ 14), (1, u "java/lang/Object"), (4, u "hash"), (86, .class_ 108), (1, u "java/lang/Enum$EnumDesc"), (2, .class_ 112), (0, u "java/lang/constant/Constable"), (0, .class_ 114), (0, u "java/lang/Comparable"), (0, .class_ 116), (0, u "java/io/Serializable")] 87

/-- java/lang/Enum -/
def k5 : Class := { plain "java/lang/Enum" (some 0) with
  accessFlags := 1057
  interfaces := #[2, 3, 4]
  cf := some (fileOf pool5 2 #[.nestMembers #[106]] #[] 1057 12 #[111, 113, 115] #[{ accessFlags := 18, nameIndex := 5, descriptorIndex := 6, attributes := #[] }, { accessFlags := 18, nameIndex := 9, descriptorIndex := 10, attributes := #[] }, { accessFlags := 2, nameIndex := 19, descriptorIndex := 10, attributes := #[] }])
  fields := #[{ name := "name", type := (.object "java/lang/String"), accessFlags := 18, slot := 0, constantValue := 0 }, { name := "ordinal", type := .int, accessFlags := 18, slot := 1, constantValue := 0 }, { name := "hash", type := .int, accessFlags := 2, slot := 2, constantValue := 0 }]
  methods := #[]
  instanceTypes := #[(.object "java/lang/String"), .int, .int]
  staticTypes := #[]
  resolved := Array.replicate 204 none
  statics := none }

def pool6 : Array CpInfo := pool [(1, .class_ 2), (0, u "com/example/bridgr/bridgr/spec/Section"), (0, .fieldref 1 4), (0, .nameAndType 5 6), (0, u "INPUT"), (0, u "Lcom/example/bridgr/bridgr/spec/Section;"), (0, .fieldref 1 8), (0, .nameAndType 9 6), (0, u "OUTPUT"), (2, u "ENV_INIT"), (2, u "SYS_INIT"), (2, u "ENV_TRANS"), (2, u "SYS_TRANS"), (2, u "ENV_LIVENESS"), (2, u "SYS_LIVENESS"), (2, u "$VALUES"), (0, u "[Lcom/example/bridgr/bridgr/spec/Section;"), (6, .class_ 40), (1, u "java/lang/Enum"), (57, u "declaresVariables"), (0, u "()Z")] 63

def k6c0 : Code := { maxStack := 2, maxLocals := 1, code := prog_19_method_6_code, exceptionTable := #[], attributes := #[] }
def k6m0 : Method := { name := "declaresVariables", desc := "()Z", sig := { parameters := [], returnType := some .boolean }, accessFlags := 1, code := some k6c0 }
/-- com/example/bridgr/bridgr/spec/Section -/
def k6 : Class := { plain "com/example/bridgr/bridgr/spec/Section" (some 5) with
  accessFlags := 16433
  interfaces := #[]
  cf := some (fileOf pool6 1 #[] #[{ accessFlags := 1, nameIndex := 98, descriptorIndex := 99, attributes := #[] }] 16433 38 #[] #[{ accessFlags := 16409, nameIndex := 5, descriptorIndex := 6, attributes := #[] }, { accessFlags := 16409, nameIndex := 9, descriptorIndex := 6, attributes := #[] }, { accessFlags := 16409, nameIndex := 12, descriptorIndex := 6, attributes := #[] }, { accessFlags := 16409, nameIndex := 15, descriptorIndex := 6, attributes := #[] }, { accessFlags := 16409, nameIndex := 18, descriptorIndex := 6, attributes := #[] }, { accessFlags := 16409, nameIndex := 21, descriptorIndex := 6, attributes := #[] }, { accessFlags := 16409, nameIndex := 24, descriptorIndex := 6, attributes := #[] }, { accessFlags := 16409, nameIndex := 27, descriptorIndex := 6, attributes := #[] }, { accessFlags := 4122, nameIndex := 30, descriptorIndex := 31, attributes := #[] }])
  fields := #[{ name := "INPUT", type := (.object "com/example/bridgr/bridgr/spec/Section"), accessFlags := 16409, slot := 0, constantValue := 0 }, { name := "OUTPUT", type := (.object "com/example/bridgr/bridgr/spec/Section"), accessFlags := 16409, slot := 1, constantValue := 0 }, { name := "ENV_INIT", type := (.object "com/example/bridgr/bridgr/spec/Section"), accessFlags := 16409, slot := 2, constantValue := 0 }, { name := "SYS_INIT", type := (.object "com/example/bridgr/bridgr/spec/Section"), accessFlags := 16409, slot := 3, constantValue := 0 }, { name := "ENV_TRANS", type := (.object "com/example/bridgr/bridgr/spec/Section"), accessFlags := 16409, slot := 4, constantValue := 0 }, { name := "SYS_TRANS", type := (.object "com/example/bridgr/bridgr/spec/Section"), accessFlags := 16409, slot := 5, constantValue := 0 }, { name := "ENV_LIVENESS", type := (.object "com/example/bridgr/bridgr/spec/Section"), accessFlags := 16409, slot := 6, constantValue := 0 }, { name := "SYS_LIVENESS", type := (.object "com/example/bridgr/bridgr/spec/Section"), accessFlags := 16409, slot := 7, constantValue := 0 }, { name := "$VALUES", type := (.array (.object "com/example/bridgr/bridgr/spec/Section")), accessFlags := 4122, slot := 8, constantValue := 0 }]
  methods := #[k6m0]
  instanceTypes := #[(.object "java/lang/String"), .int, .int]
  staticTypes := #[(.object "com/example/bridgr/bridgr/spec/Section"), (.object "com/example/bridgr/bridgr/spec/Section"), (.object "com/example/bridgr/bridgr/spec/Section"), (.object "com/example/bridgr/bridgr/spec/Section"), (.object "com/example/bridgr/bridgr/spec/Section"), (.object "com/example/bridgr/bridgr/spec/Section"), (.object "com/example/bridgr/bridgr/spec/Section"), (.object "com/example/bridgr/bridgr/spec/Section"), (.array (.object "com/example/bridgr/bridgr/spec/Section"))]
  resolved := Array.replicate 163 none
  statics := some 0 }

def pool7 : Array CpInfo := pool [(2, .class_ 4), (1, u "java/lang/CharSequence"), (42, .class_ 48), (0, u "java/lang/CharSequence$1CodePointIterator"), (10, .class_ 60), (0, u "java/lang/CharSequence$1CharIterator"), (5, .class_ 67), (0, u "java/lang/Object")] 63

/-- java/lang/CharSequence -/
def k7 : Class := { plain "java/lang/CharSequence" (some 0) with
  accessFlags := 1537
  interfaces := #[]
  cf := some (fileOf pool7 2 #[.nestMembers #[47, 59]] #[] 1537 66 #[] #[])
  fields := #[]
  methods := #[]
  instanceTypes := #[]
  staticTypes := #[]
  resolved := Array.replicate 131 none
  statics := none }

def pool8 : Array CpInfo := pool [(1, .class_ 2), (0, u "java/lang/constant/ConstantDesc"), (0, .class_ 4), (0, u "java/lang/Object")] 32

/-- java/lang/constant/ConstantDesc -/
def k8 : Class := { plain "java/lang/constant/ConstantDesc" (some 0) with
  accessFlags := 1537
  interfaces := #[]
  cf := some (fileOf pool8 1 #[] #[] 1537 3 #[] #[])
  fields := #[]
  methods := #[]
  instanceTypes := #[]
  staticTypes := #[]
  resolved := Array.replicate 37 none
  statics := none }

def pool9 : Array CpInfo := pool [(1, .methodref 2 3), (0, .class_ 4), (0, .nameAndType 5 6), (0, u "java/lang/Object"), (0, u "<init>"), (0, u "()V"), (0, .string 8), (0, u ""), (0, .fieldref 10 11), (0, .class_ 12), (0, .nameAndType 13 14), (0, u "java/lang/String"), (0, u "value"), (0, u "[B"), (0, .fieldref 10 16), (0, .nameAndType 17 18), (0, u "coder"), (0, u "B"), (2, u "hash"), (0, u "I"), (2, u "hashIsZero"), (0, u "Z"), (0, .methodref 10 28), (0, .nameAndType 5 29), (0, u "([CIILjava/lang/Void;)V"), (8, .fieldref 10 39), (0, .nameAndType 40 26), (0, u "COMPACT_STRINGS"), (1, .class_ 44), (1, u "java/lang/StringUTF16"), (0, u "compress"), (1, .methodref 42 48), (0, .nameAndType 49 50), (0, u "coderFromArrayLen"), (0, u "([BI)B"), (126, .methodref 42 178), (0, .nameAndType 45 179), (0, u "([CII)[B"), (395, .class_ 576), (0, u "java/lang/CharSequence"), (22, u "CASE_INSENSITIVE_ORDER"), (0, u "Ljava/util/Comparator;"), (409, u "([C)V"), (90, u "serialPersistentFields"), (0, u "[Ljava/io/ObjectStreamField;"), (0, .class_ 1104), (0, u "java/lang/String$CaseInsensitiveComparator"), (1, .class_ 1107), (0, u "java/io/Serializable"), (0, .class_ 1109), (0, u "java/lang/Comparable"), (0, .class_ 1111), (0, u "java/lang/constant/Constable"), (0, .class_ 1113), (0, u "java/lang/constant/ConstantDesc"), (2, u "serialVersionUID"), (0, u "J"), (3, u "REPL"), (0, u "C"), (2, u "LATIN1"), (1, u "UTF16")] 323

def k9m0 : Method := { name := "<init>", desc := "()V", sig := { parameters := [], returnType := none }, accessFlags := 1, code := none }
def k9c1 : Code := { maxStack := 5, maxLocals := 2, code := jdk_42_method_3_code, exceptionTable := #[], attributes := #[] }
def k9m1 : Method := { name := "<init>", desc := "([C)V", sig := { parameters := [(.array .char)], returnType := none }, accessFlags := 1, code := some k9c1 }
def k9c2 : Code := { maxStack := 4, maxLocals := 6, code := jdk_42_method_149_code, exceptionTable := #[], attributes := #[] }
def k9m2 : Method := { name := "<init>", desc := "([CIILjava/lang/Void;)V", sig := { parameters := [(.array .char), .int, .int, (.object "java/lang/Void")], returnType := none }, accessFlags := 2, code := some k9c2 }
/-- java/lang/String -/
def k9 : Class := { plain "java/lang/String" (some 0) with
  accessFlags := 49
  interfaces := #[4, 3, 7, 2, 8]
  cf := some (fileOf pool9 10 #[.nestMembers #[1103]] #[{ accessFlags := 1, nameIndex := 5, descriptorIndex := 6, attributes := #[] }, { accessFlags := 1, nameIndex := 5, descriptorIndex := 1010, attributes := #[] }, { accessFlags := 2, nameIndex := 5, descriptorIndex := 29, attributes := #[] }] 49 2 #[1106, 1108, 575, 1110, 1112] #[{ accessFlags := 18, nameIndex := 13, descriptorIndex := 14, attributes := #[] }, { accessFlags := 18, nameIndex := 17, descriptorIndex := 18, attributes := #[] }, { accessFlags := 2, nameIndex := 21, descriptorIndex := 22, attributes := #[] }, { accessFlags := 2, nameIndex := 25, descriptorIndex := 26, attributes := #[] }, { accessFlags := 26, nameIndex := 1116, descriptorIndex := 1117, attributes := #[] }, { accessFlags := 24, nameIndex := 40, descriptorIndex := 26, attributes := #[] }, { accessFlags := 26, nameIndex := 1101, descriptorIndex := 1102, attributes := #[] }, { accessFlags := 26, nameIndex := 1121, descriptorIndex := 1122, attributes := #[] }, { accessFlags := 25, nameIndex := 599, descriptorIndex := 600, attributes := #[] }, { accessFlags := 24, nameIndex := 1125, descriptorIndex := 18, attributes := #[] }, { accessFlags := 24, nameIndex := 1127, descriptorIndex := 18, attributes := #[] }])
  fields := #[{ name := "value", type := (.array .byte), accessFlags := 18, slot := 0, constantValue := 0 }, { name := "coder", type := .byte, accessFlags := 18, slot := 1, constantValue := 0 }, { name := "hash", type := .int, accessFlags := 2, slot := 2, constantValue := 0 }, { name := "hashIsZero", type := .boolean, accessFlags := 2, slot := 3, constantValue := 0 }, { name := "serialVersionUID", type := .long, accessFlags := 26, slot := 0, constantValue := 0 }, { name := "COMPACT_STRINGS", type := .boolean, accessFlags := 24, slot := 1, constantValue := 0 }, { name := "serialPersistentFields", type := (.array (.object "java/io/ObjectStreamField")), accessFlags := 26, slot := 2, constantValue := 0 }, { name := "REPL", type := .char, accessFlags := 26, slot := 3, constantValue := 0 }, { name := "CASE_INSENSITIVE_ORDER", type := (.object "java/util/Comparator"), accessFlags := 25, slot := 4, constantValue := 0 }, { name := "LATIN1", type := .byte, accessFlags := 24, slot := 5, constantValue := 0 }, { name := "UTF16", type := .byte, accessFlags := 24, slot := 6, constantValue := 0 }]
  methods := #[k9m0, k9m1, k9m2]
  instanceTypes := #[(.array .byte), .byte, .int, .boolean]
  staticTypes := #[.long, .boolean, (.array (.object "java/io/ObjectStreamField")), .char, (.object "java/util/Comparator"), .byte, .byte]
  resolved := Array.replicate 1451 none
  statics := some 1 }

def pool10 : Array CpInfo := pool [(1, .methodref 2 3), (0, .class_ 4), (0, .nameAndType 5 6), (0, u "java/lang/Object"), (0, u "<init>"), (0, u "()V"), (0, .methodref 8 9), (0, .class_ 10), (0, .nameAndType 11 12), (0, u "java/util/Objects"), (0, u "requireNonNull"), (0, u "(Ljava/lang/Object;)Ljava/lang/Object;"), (0, .class_ 14), (0, u "java/lang/String"), (0, .fieldref 16 17), (0, .class_ 18), (0, .nameAndType 19 20), (0, u "com/example/bridgr/bridgr/spec/Variable"), (0, u "name"), (0, u "Ljava/lang/String;"), (0, .methodref 16 22), (0, .nameAndType 23 24), (0, u "checkDeclaration"), (0, u "(Lcom/example/bridgr/bridgr/spec/Section;)Lcom/example/bridgr/bridgr/spec/Section;"), (0, .fieldref 16 26), (0, .nameAndType 27 28), (0, u "declaration"), (0, u "Lcom/example/bridgr/bridgr/spec/Section;"), (0, .fieldref 16 30), (0, .nameAndType 31 32), (0, u "lowest"), (0, u "Ljava/math/BigInteger;"), (0, .fieldref 16 34), (0, .nameAndType 35 32), (0, u "highest"), (19, .methodref 56 57), (0, .class_ 58), (0, .nameAndType 59 60), (0, u "com/example/bridgr/bridgr/spec/Section"), (0, u "declaresVariables"), (0, u "()Z"), (8, u "isInteger"), (12, u "BOOLEAN_VALUES"), (14, u "(Ljava/lang/String;Lcom/example/bridgr/bridgr/spec/Section;)V"), (7, u "()Ljava/math/BigInteger;")] 24

def k10c0 : Code := { maxStack := 2, maxLocals := 3, code := prog_30_method_1_code, exceptionTable := #[], attributes := #[] }
def k10m0 : Method := { name := "<init>", desc := "(Ljava/lang/String;Lcom/example/bridgr/bridgr/spec/Section;)V", sig := { parameters := [(.object "java/lang/String"), (.object "com/example/bridgr/bridgr/spec/Section")], returnType := none }, accessFlags := 1, code := some k10c0 }
def k10c1 : Code := { maxStack := 3, maxLocals := 1, code := prog_30_method_3_code, exceptionTable := #[], attributes := #[] }
def k10m1 : Method := { name := "checkDeclaration", desc := "(Lcom/example/bridgr/bridgr/spec/Section;)Lcom/example/bridgr/bridgr/spec/Section;", sig := { parameters := [(.object "com/example/bridgr/bridgr/spec/Section")], returnType := some (.object "com/example/bridgr/bridgr/spec/Section") }, accessFlags := 10, code := some k10c1 }
def k10c2 : Code := { maxStack := 1, maxLocals := 1, code := prog_30_method_7_code, exceptionTable := #[], attributes := #[] }
def k10m2 : Method := { name := "isInteger", desc := "()Z", sig := { parameters := [], returnType := some .boolean }, accessFlags := 1, code := some k10c2 }
def k10c3 : Code := { maxStack := 1, maxLocals := 1, code := prog_30_method_8_code, exceptionTable := #[], attributes := #[] }
def k10m3 : Method := { name := "lowest", desc := "()Ljava/math/BigInteger;", sig := { parameters := [], returnType := some (.object "java/math/BigInteger") }, accessFlags := 1, code := some k10c3 }
def k10c4 : Code := { maxStack := 1, maxLocals := 1, code := prog_30_method_9_code, exceptionTable := #[], attributes := #[] }
def k10m4 : Method := { name := "highest", desc := "()Ljava/math/BigInteger;", sig := { parameters := [], returnType := some (.object "java/math/BigInteger") }, accessFlags := 1, code := some k10c4 }
/-- com/example/bridgr/bridgr/spec/Variable -/
def k10 : Class := { plain "com/example/bridgr/bridgr/spec/Variable" (some 0) with
  accessFlags := 33
  interfaces := #[]
  cf := some (fileOf pool10 16 #[] #[{ accessFlags := 1, nameIndex := 5, descriptorIndex := 97, attributes := #[] }, { accessFlags := 10, nameIndex := 23, descriptorIndex := 24, attributes := #[] }, { accessFlags := 1, nameIndex := 69, descriptorIndex := 60, attributes := #[] }, { accessFlags := 1, nameIndex := 31, descriptorIndex := 105, attributes := #[] }, { accessFlags := 1, nameIndex := 35, descriptorIndex := 105, attributes := #[] }] 33 2 #[] #[{ accessFlags := 26, nameIndex := 82, descriptorIndex := 32, attributes := #[] }, { accessFlags := 18, nameIndex := 19, descriptorIndex := 20, attributes := #[] }, { accessFlags := 18, nameIndex := 27, descriptorIndex := 28, attributes := #[] }, { accessFlags := 18, nameIndex := 31, descriptorIndex := 32, attributes := #[] }, { accessFlags := 18, nameIndex := 35, descriptorIndex := 32, attributes := #[] }])
  fields := #[{ name := "BOOLEAN_VALUES", type := (.object "java/math/BigInteger"), accessFlags := 26, slot := 0, constantValue := 0 }, { name := "name", type := (.object "java/lang/String"), accessFlags := 18, slot := 0, constantValue := 0 }, { name := "declaration", type := (.object "com/example/bridgr/bridgr/spec/Section"), accessFlags := 18, slot := 1, constantValue := 0 }, { name := "lowest", type := (.object "java/math/BigInteger"), accessFlags := 18, slot := 2, constantValue := 0 }, { name := "highest", type := (.object "java/math/BigInteger"), accessFlags := 18, slot := 3, constantValue := 0 }]
  methods := #[k10m0, k10m1, k10m2, k10m3, k10m4]
  instanceTypes := #[(.object "java/lang/String"), (.object "com/example/bridgr/bridgr/spec/Section"), (.object "java/math/BigInteger"), (.object "java/math/BigInteger")]
  staticTypes := #[(.object "java/math/BigInteger")]
  resolved := Array.replicate 130 none
  statics := none }

def pool11 : Array CpInfo := pool [(2, .class_ 4), (1, u "java/lang/Object"), (0, u "<init>"), (0, u "()V"), (35, .class_ 44), (1, u "java/util/Objects"), (0, u "requireNonNull"), (0, u "(Ljava/lang/Object;)Ljava/lang/Object;")] 137

def k11m0 : Method := { name := "<init>", desc := "()V", sig := { parameters := [], returnType := none }, accessFlags := 2, code := none }
def k11c1 : Code := { maxStack := 2, maxLocals := 1, code := jdk_31_method_10_code, exceptionTable := #[], attributes := #[] }
def k11m1 : Method := { name := "requireNonNull", desc := "(Ljava/lang/Object;)Ljava/lang/Object;", sig := { parameters := [(.object "java/lang/Object")], returnType := some (.object "java/lang/Object") }, accessFlags := 9, code := some k11c1 }
/-- java/util/Objects -/
def k11 : Class := { plain "java/util/Objects" (some 0) with
  accessFlags := 49
  interfaces := #[]
  cf := some (fileOf pool11 42 #[] #[{ accessFlags := 2, nameIndex := 5, descriptorIndex := 6, attributes := #[] }, { accessFlags := 9, nameIndex := 45, descriptorIndex := 46, attributes := #[] }] 49 2 #[] #[])
  fields := #[]
  methods := #[k11m0, k11m1]
  instanceTypes := #[]
  staticTypes := #[]
  resolved := Array.replicate 184 none
  statics := none }

def pool12 : Array CpInfo := pool [(6, .class_ 8), (1, u "java/lang/Object"), (0, u "<init>"), (0, u "()V"), (1, .class_ 14), (1, u "java/lang/StringUTF16"), (31, u "$assertionsDisabled"), (0, u "Z"), (13, u "HI_BYTE_SHIFT"), (0, u "I"), (2, u "LO_BYTE_SHIFT"), (49, .methodref 12 116), (0, .nameAndType 117 118), (0, u "compress"), (0, u "([CI[BII)I"), (3, u "([CII)[B"), (138, u "coderFromArrayLen"), (0, u "([BI)B"), (106, .class_ 371), (1, u "java/lang/StringUTF16$LinesSpliterator"), (58, u "MAX_LENGTH"), (196, .class_ 628), (0, u "java/lang/StringUTF16$CodePointsSpliterator"), (0, .class_ 630), (0, u "java/lang/StringUTF16$CharsSpliterator")] 4

def k12m0 : Method := { name := "<init>", desc := "()V", sig := { parameters := [], returnType := none }, accessFlags := 0, code := none }
def k12c1 : Code := { maxStack := 2, maxLocals := 2, code := jdk_52_method_15_code, exceptionTable := #[], attributes := #[] }
def k12m1 : Method := { name := "coderFromArrayLen", desc := "([BI)B", sig := { parameters := [(.array .byte), .int], returnType := some .byte }, accessFlags := 8, code := some k12c1 }
def k12c2 : Code := { maxStack := 5, maxLocals := 6, code := jdk_52_method_16_code, exceptionTable := #[], attributes := #[] }
def k12m2 : Method := { name := "compress", desc := "([CII)[B", sig := { parameters := [(.array .char), .int, .int], returnType := some (.array .byte) }, accessFlags := 9, code := some k12c2 }
def k12c3 : Code := { maxStack := 3, maxLocals := 7, code := jdk_52_method_21_code, exceptionTable := #[], attributes := #[] }
def k12m3 : Method := { name := "compress", desc := "([CI[BII)I", sig := { parameters := [(.array .char), .int, (.array .byte), .int, .int], returnType := some .int }, accessFlags := 9, code := some k12c3 }
/-- java/lang/StringUTF16 -/
def k12 : Class := { plain "java/lang/StringUTF16" (some 0) with
  accessFlags := 48
  interfaces := #[]
  cf := some (fileOf pool12 12 #[.nestMembers #[627, 629, 369]] #[{ accessFlags := 0, nameIndex := 9, descriptorIndex := 10, attributes := #[] }, { accessFlags := 8, nameIndex := 261, descriptorIndex := 262, attributes := #[] }, { accessFlags := 9, nameIndex := 117, descriptorIndex := 122, attributes := #[] }, { accessFlags := 9, nameIndex := 117, descriptorIndex := 118, attributes := #[] }] 48 6 #[] #[{ accessFlags := 26, nameIndex := 61, descriptorIndex := 62, attributes := #[] }, { accessFlags := 26, nameIndex := 65, descriptorIndex := 62, attributes := #[] }, { accessFlags := 24, nameIndex := 430, descriptorIndex := 62, attributes := #[] }, { accessFlags := 4120, nameIndex := 46, descriptorIndex := 47, attributes := #[] }])
  fields := #[{ name := "HI_BYTE_SHIFT", type := .int, accessFlags := 26, slot := 0, constantValue := 0 }, { name := "LO_BYTE_SHIFT", type := .int, accessFlags := 26, slot := 1, constantValue := 0 }, { name := "MAX_LENGTH", type := .int, accessFlags := 24, slot := 2, constantValue := 0 }, { name := "$assertionsDisabled", type := .boolean, accessFlags := 4120, slot := 3, constantValue := 0 }]
  methods := #[k12m0, k12m1, k12m2, k12m3]
  instanceTypes := #[]
  staticTypes := #[.int, .int, .int, .boolean]
  resolved := Array.replicate 635 none
  statics := none }

def pool13 : Array CpInfo := pool [(4, .class_ 6), (1, u "java/lang/Object"), (0, u "<init>"), (0, u "()V"), (5, .class_ 16), (1, u "java/lang/StringLatin1"), (104, u "$assertionsDisabled"), (0, u "Z"), (98, .class_ 223), (1, u "java/lang/StringLatin1$LinesSpliterator"), (166, .class_ 391), (0, u "java/lang/StringLatin1$CharsSpliterator")] 3

def k13m0 : Method := { name := "<init>", desc := "()V", sig := { parameters := [], returnType := none }, accessFlags := 0, code := none }
/-- java/lang/StringLatin1 -/
def k13 : Class := { plain "java/lang/StringLatin1" (some 0) with
  accessFlags := 48
  interfaces := #[]
  cf := some (fileOf pool13 14 #[.nestMembers #[390, 221]] #[{ accessFlags := 0, nameIndex := 7, descriptorIndex := 8, attributes := #[] }] 48 4 #[] #[{ accessFlags := 4120, nameIndex := 121, descriptorIndex := 122, attributes := #[] }])
  fields := #[{ name := "$assertionsDisabled", type := .boolean, accessFlags := 4120, slot := 0, constantValue := 0 }]
  methods := #[k13m0]
  instanceTypes := #[]
  staticTypes := #[.boolean]
  resolved := Array.replicate 395 none
  statics := none }

def pool14 : Array CpInfo := pool [(2, .class_ 4), (1, u "java/lang/Object"), (0, u "<init>"), (0, u "()V"), (17, .class_ 26), (1, u "jdk/internal/util/Preconditions"), (28, .class_ 56), (0, u "jdk/internal/util/Preconditions$4"), (57, .class_ 115), (0, u "jdk/internal/util/Preconditions$1"), (7, u "SIOOBE_FORMATTER"), (0, u "Ljava/util/function/BiFunction;"), (0, .class_ 126), (0, u "jdk/internal/util/Preconditions$2"), (3, u "AIOOBE_FORMATTER"), (0, .class_ 132), (0, u "jdk/internal/util/Preconditions$3"), (3, u "IOOBE_FORMATTER")] 57

def k14m0 : Method := { name := "<init>", desc := "()V", sig := { parameters := [], returnType := none }, accessFlags := 1, code := none }
/-- jdk/internal/util/Preconditions -/
def k14 : Class := { plain "jdk/internal/util/Preconditions" (some 0) with
  accessFlags := 33
  interfaces := #[]
  cf := some (fileOf pool14 24 #[.nestMembers #[55, 131, 125, 114]] #[{ accessFlags := 1, nameIndex := 5, descriptorIndex := 6, attributes := #[] }] 33 2 #[] #[{ accessFlags := 25, nameIndex := 123, descriptorIndex := 124, attributes := #[] }, { accessFlags := 25, nameIndex := 130, descriptorIndex := 124, attributes := #[] }, { accessFlags := 25, nameIndex := 136, descriptorIndex := 124, attributes := #[] }])
  fields := #[{ name := "SIOOBE_FORMATTER", type := (.object "java/util/function/BiFunction"), accessFlags := 25, slot := 0, constantValue := 0 }, { name := "AIOOBE_FORMATTER", type := (.object "java/util/function/BiFunction"), accessFlags := 25, slot := 1, constantValue := 0 }, { name := "IOOBE_FORMATTER", type := (.object "java/util/function/BiFunction"), accessFlags := 25, slot := 2, constantValue := 0 }]
  methods := #[k14m0]
  instanceTypes := #[]
  staticTypes := #[(.object "java/util/function/BiFunction"), (.object "java/util/function/BiFunction"), (.object "java/util/function/BiFunction")]
  resolved := Array.replicate 194 none
  statics := some 2 }

def pool15 : Array CpInfo := pool [(9, u "<init>"), (6, .class_ 18), (1, u "java/lang/Object"), (0, u "()V"), (1, .class_ 23), (1, u "jdk/internal/util/ArraysSupport"), (0, u "LOG2_ARRAY_LONG_INDEX_SCALE"), (0, u "I"), (2, u "U"), (0, u "Ljdk/internal/misc/Unsafe;"), (8, u "BIG_ENDIAN"), (0, u "Z"), (8, u "LOG2_BYTE_BIT_SIZE"), (4, u "LOG2_ARRAY_INT_INDEX_SCALE"), (54, u "JLA"), (0, u "Ljdk/internal/access/JavaLangAccess;"), (11, u "LOG2_ARRAY_BOOLEAN_INDEX_SCALE"), (9, u "LOG2_ARRAY_BYTE_INDEX_SCALE"), (5, u "LOG2_ARRAY_CHAR_INDEX_SCALE"), (5, u "LOG2_ARRAY_SHORT_INDEX_SCALE"), (18, u "LOG2_ARRAY_FLOAT_INDEX_SCALE"), (24, u "LOG2_ARRAY_DOUBLE_INDEX_SCALE"), (89, u "T_BOOLEAN"), (2, u "T_CHAR"), (1, u "T_FLOAT"), (1, u "T_DOUBLE"), (1, u "T_BYTE"), (1, u "T_SHORT"), (1, u "T_INT"), (1, u "T_LONG"), (1, u "SOFT_MAX_ARRAY_LENGTH")] 83

def k15m0 : Method := { name := "<init>", desc := "()V", sig := { parameters := [], returnType := none }, accessFlags := 2, code := none }
/-- jdk/internal/util/ArraysSupport -/
def k15 : Class := { plain "jdk/internal/util/ArraysSupport" (some 0) with
  accessFlags := 33
  interfaces := #[]
  cf := some (fileOf pool15 21 #[] #[{ accessFlags := 2, nameIndex := 9, descriptorIndex := 19, attributes := #[] }] 33 16 #[] #[{ accessFlags := 24, nameIndex := 28, descriptorIndex := 29, attributes := #[] }, { accessFlags := 26, nameIndex := 38, descriptorIndex := 39, attributes := #[] }, { accessFlags := 25, nameIndex := 121, descriptorIndex := 25, attributes := #[] }, { accessFlags := 25, nameIndex := 131, descriptorIndex := 25, attributes := #[] }, { accessFlags := 25, nameIndex := 137, descriptorIndex := 25, attributes := #[] }, { accessFlags := 25, nameIndex := 143, descriptorIndex := 25, attributes := #[] }, { accessFlags := 25, nameIndex := 53, descriptorIndex := 25, attributes := #[] }, { accessFlags := 25, nameIndex := 24, descriptorIndex := 25, attributes := #[] }, { accessFlags := 25, nameIndex := 162, descriptorIndex := 25, attributes := #[] }, { accessFlags := 25, nameIndex := 187, descriptorIndex := 25, attributes := #[] }, { accessFlags := 26, nameIndex := 48, descriptorIndex := 25, attributes := #[] }, { accessFlags := 25, nameIndex := 277, descriptorIndex := 25, attributes := #[] }, { accessFlags := 25, nameIndex := 280, descriptorIndex := 25, attributes := #[] }, { accessFlags := 25, nameIndex := 282, descriptorIndex := 25, attributes := #[] }, { accessFlags := 25, nameIndex := 284, descriptorIndex := 25, attributes := #[] }, { accessFlags := 25, nameIndex := 286, descriptorIndex := 25, attributes := #[] }, { accessFlags := 25, nameIndex := 288, descriptorIndex := 25, attributes := #[] }, { accessFlags := 25, nameIndex := 290, descriptorIndex := 25, attributes := #[] }, { accessFlags := 25, nameIndex := 292, descriptorIndex := 25, attributes := #[] }, { accessFlags := 26, nameIndex := 108, descriptorIndex := 109, attributes := #[] }, { accessFlags := 25, nameIndex := 294, descriptorIndex := 25, attributes := #[] }])
  fields := #[{ name := "U", type := (.object "jdk/internal/misc/Unsafe"), accessFlags := 24, slot := 0, constantValue := 0 }, { name := "BIG_ENDIAN", type := .boolean, accessFlags := 26, slot := 1, constantValue := 0 }, { name := "LOG2_ARRAY_BOOLEAN_INDEX_SCALE", type := .int, accessFlags := 25, slot := 2, constantValue := 0 }, { name := "LOG2_ARRAY_BYTE_INDEX_SCALE", type := .int, accessFlags := 25, slot := 3, constantValue := 0 }, { name := "LOG2_ARRAY_CHAR_INDEX_SCALE", type := .int, accessFlags := 25, slot := 4, constantValue := 0 }, { name := "LOG2_ARRAY_SHORT_INDEX_SCALE", type := .int, accessFlags := 25, slot := 5, constantValue := 0 }, { name := "LOG2_ARRAY_INT_INDEX_SCALE", type := .int, accessFlags := 25, slot := 6, constantValue := 0 }, { name := "LOG2_ARRAY_LONG_INDEX_SCALE", type := .int, accessFlags := 25, slot := 7, constantValue := 0 }, { name := "LOG2_ARRAY_FLOAT_INDEX_SCALE", type := .int, accessFlags := 25, slot := 8, constantValue := 0 }, { name := "LOG2_ARRAY_DOUBLE_INDEX_SCALE", type := .int, accessFlags := 25, slot := 9, constantValue := 0 }, { name := "LOG2_BYTE_BIT_SIZE", type := .int, accessFlags := 26, slot := 10, constantValue := 0 }, { name := "T_BOOLEAN", type := .int, accessFlags := 25, slot := 11, constantValue := 0 }, { name := "T_CHAR", type := .int, accessFlags := 25, slot := 12, constantValue := 0 }, { name := "T_FLOAT", type := .int, accessFlags := 25, slot := 13, constantValue := 0 }, { name := "T_DOUBLE", type := .int, accessFlags := 25, slot := 14, constantValue := 0 }, { name := "T_BYTE", type := .int, accessFlags := 25, slot := 15, constantValue := 0 }, { name := "T_SHORT", type := .int, accessFlags := 25, slot := 16, constantValue := 0 }, { name := "T_INT", type := .int, accessFlags := 25, slot := 17, constantValue := 0 }, { name := "T_LONG", type := .int, accessFlags := 25, slot := 18, constantValue := 0 }, { name := "JLA", type := (.object "jdk/internal/access/JavaLangAccess"), accessFlags := 26, slot := 19, constantValue := 0 }, { name := "SOFT_MAX_ARRAY_LENGTH", type := .int, accessFlags := 25, slot := 20, constantValue := 0 }]
  methods := #[k15m0]
  instanceTypes := #[]
  staticTypes := #[(.object "jdk/internal/misc/Unsafe"), .boolean, .int, .int, .int, .int, .int, .int, .int, .int, .int, .int, .int, .int, .int, .int, .int, .int, .int, (.object "jdk/internal/access/JavaLangAccess"), .int]
  resolved := Array.replicate 378 none
  statics := none }

def pool16 : Array CpInfo := pool [(1, u "java/lang/Cloneable"), (0, .class_ 1), (0, u "java/lang/Object"), (0, .class_ 3)] 3

/-- java/lang/Cloneable -/
def k16 : Class := { plain "java/lang/Cloneable" (some 0) with
  accessFlags := 1537
  interfaces := #[]
  cf := some (fileOf pool16 2 #[] #[] 1537 4 #[] #[])
  fields := #[]
  methods := #[]
  instanceTypes := #[]
  staticTypes := #[]
  resolved := Array.replicate 8 none
  statics := none }

/-- the primitive byte -/
def k17 : Class := { plain "byte" none with kind := .primitive 'B', accessFlags := 0x411 }
/-- [B -/
def k18 : Class := { plain "[B" (some 0) with kind := .array 17 .byte, interfaces := #[16, 4], accessFlags := 1041 }

/-- the primitive char -/
def k19 : Class := { plain "char" none with kind := .primitive 'C', accessFlags := 0x411 }
/-- [C -/
def k20 : Class := { plain "[C" (some 0) with kind := .array 19 .char, interfaces := #[16, 4], accessFlags := 1041 }

/-- the primitive int -/
def k21 : Class := { plain "int" none with kind := .primitive 'I', accessFlags := 0x411 }
/-- [I -/
def k22 : Class := { plain "[I" (some 0) with kind := .array 21 .int, interfaces := #[16, 4], accessFlags := 1041 }

def heap : Heap := #[{ cls := 6, slots := #[.ref 4, .ref 3, .null, .null, .null, .null, .null, .null, .null], vm := .statics 6 },
  { cls := 9, slots := #[.long 0, .int 1, .null, .int 0, .null, .int 0, .int 0], vm := .statics 9 },
  { cls := 14, slots := #[.null, .null, .null], vm := .statics 14 },
  { cls := 6, slots := #[.null, .int 1, .int 0], vm := .none },
  { cls := 6, slots := #[.null, .int 0, .int 0], vm := .none }]
def classes : Array Class := #[k0, k1, k2, k3, k4, k5, k6, k7, k8, k9, k10, k11, k12, k13, k14, k15, k16, k17, k18, k19, k20, k21, k22]
def interned : List (Array UInt16 × Addr) := []
def slotsUsed : Nat := 25
def theMethod : MethodId := ⟨1, 2⟩
def args0 : Array Value := #[.int 3, .int 65, .int 66]
def aboutOver (below : List Frame) : State where
  vm := { classes := classes, interned := interned.toArray }
  heap := heap
  slotsUsed := slotsUsed
  threads := #[{ frames := .invoking theMethod args0 :: below }]
def below0 : List Frame := [.native { method := ⟨0, 0⟩, args := #[] }]
def about1 : State := aboutOver below0
def p0 : Program := .bare "" "" ""
def e0 : Env := launch0.env 0 0 0
theorem w_frames : about1.frames = Frame.invoking theMethod args0 :: below0 := rfl
set_option maxRecDepth 65536 in
theorem w_args : argsFit about1.vm theMethod args0 = true := by decide +kernel
set_option maxRecDepth 65536 in
theorem w_heap : heapFits about1 = true := by decide +kernel
set_option maxRecDepth 65536 in
theorem w_runnable : about1.curStatus? = some .runnable := by decide +kernel
set_option maxRecDepth 65536 in
theorem w_alone : about1.alone = true := by decide +kernel
set_option maxRecDepth 65536 in
theorem w_named : about1.methodNamed? x = some theMethod := by decide +kernel
set_option maxRecDepth 65536 in
theorem w_hears : about1.hears theMethod below0 = true := by decide +kernel
set_option maxRecDepth 65536 in
theorem w_ripe : about1.ripe theMethod args0 below0 = true := by decide +kernel
theorem w_running : about1.status = .running := rfl
set_option maxRecDepth 65536 in
theorem w_room : about1.hasRoom e0.platform room_1 = true :=
  launch0.hasRoom_least _ room_1 (by decide +kernel) (by decide +kernel) (by decide +kernel) (by decide +kernel) (by decide +kernel) (by decide +kernel)
theorem allAtoms_all (ts : List Jvm.Cond) (a : Array Jvm.Value) (st : Jvm.State) : (allAtoms ts).before a st = ts.all (fun c => c.before a st) := by
  induction ts with
  | nil => rfl
  | cons c t ih =>
    show (Jvm.Cond.and c (allAtoms t)).before a st = _
    rw [Jvm.Cond.before_and, ih, List.all_cons]
def words1 : List Jvm.Cond := Jvm.Cond.code x code maxLocals ret :: tables_1
/-- a 'code' word, met by the world's own term for the bytes: nothing is compared byte by byte -/
theorem code_word {y : MethodName} {bytes : ByteArray} {mx : Nat} {rt : Option FieldType} {a : Array Value} {s : State} {m : MethodId} {meth : Method} {c : Code} (h1 : s.methodNamed? y = some m) (h2 : s.vm.method? m = some meth) (h3 : meth.code = some c) (h4 : c.code = bytes)
    (h5 : (c.maxLocals == mx && c.exceptionTable.isEmpty && decide (c.maxStack ≤ mostOperands) && decide (meth.sig.returnType = rt) && !meth.locks && decide (parseMethodDescriptor y.desc = some meth.sig)) = true) : (Jvm.Cond.code y bytes mx rt).before a s = true := by
  simp only [Bool.and_eq_true, beq_iff_eq, Bool.not_eq_true', decide_eq_true_eq] at h5
  obtain ⟨⟨⟨⟨⟨g1, g2⟩, g3⟩, g4⟩, g5⟩, g6⟩ := h5
  simp [Cond.before, Cond.holds, Cond.value, h1, h2, h3, h4, g1, g2, g3, g4, g5, g6]
def isCode : Jvm.Cond → Bool
  | .code _ _ _ _ => true
  | _ => false
theorem all_split {L : List Jvm.Cond} {P : Jvm.Cond → Bool} (h1 : L.all (fun c => isCode c || P c) = true) (h2 : ∀ c ∈ L.filter isCode, P c = true) : L.all P = true := by
  refine List.all_eq_true.mpr fun c hc => ?_
  have h := List.all_eq_true.mp h1 c hc
  rcases Bool.eq_false_or_eq_true (isCode c) with hi | hi
  · exact h2 c (List.mem_filter.mpr ⟨hc, hi⟩)
  · simpa [hi] using h
set_option maxRecDepth 65536 in
theorem w_c0 : (Jvm.Cond.code x code maxLocals ret).before args0 about1 = true := code_word (m := ⟨1, 2⟩) (meth := k1m2) (c := k1c2) (by decide +kernel) rfl rfl rfl (by decide +kernel)
set_option maxRecDepth 65536 in
theorem w_c1 : (Jvm.Cond.code ({ cls := "com/example/bridgr/bridgr/spec/VariableIsIntegerPinLaw", name := "drawName", desc := "(III)Ljava/lang/String;" } : Jvm.MethodName) method_2_code (8 : Nat) (Option.some (Jvm.ClassFile.FieldType.object "java/lang/String"))).before args0 about1 = true := code_word (m := ⟨1, 1⟩) (meth := k1m1) (c := k1c1) (by decide +kernel) rfl rfl rfl (by decide +kernel)
set_option maxRecDepth 65536 in
theorem w_c2 : (Jvm.Cond.code ({ cls := "java/lang/String", name := "<init>", desc := "([C)V" } : Jvm.MethodName) jdk_42_method_3_code (2 : Nat) (Option.none : Option Jvm.ClassFile.FieldType)).before args0 about1 = true := code_word (m := ⟨9, 1⟩) (meth := k9m1) (c := k9c1) (by decide +kernel) rfl rfl rfl (by decide +kernel)
set_option maxRecDepth 65536 in
theorem w_c3 : (Jvm.Cond.code ({ cls := "java/lang/String", name := "<init>", desc := "([CIILjava/lang/Void;)V" } : Jvm.MethodName) jdk_42_method_149_code (6 : Nat) (Option.none : Option Jvm.ClassFile.FieldType)).before args0 about1 = true := code_word (m := ⟨9, 2⟩) (meth := k9m2) (c := k9c2) (by decide +kernel) rfl rfl rfl (by decide +kernel)
set_option maxRecDepth 65536 in
theorem w_c4 : (Jvm.Cond.code ({ cls := "java/lang/Object", name := "<init>", desc := "()V" } : Jvm.MethodName) object_method_1_code (1 : Nat) (Option.none : Option Jvm.ClassFile.FieldType)).before args0 about1 = true := code_word (m := ⟨0, 0⟩) (meth := k0m0) (c := k0c0) (by decide +kernel) rfl rfl rfl (by decide +kernel)
set_option maxRecDepth 65536 in
theorem w_c5 : (Jvm.Cond.code ({ cls := "com/example/bridgr/bridgr/spec/Variable", name := "<init>", desc := "(Ljava/lang/String;Lcom/example/bridgr/bridgr/spec/Section;)V" } : Jvm.MethodName) prog_30_method_1_code (3 : Nat) (Option.none : Option Jvm.ClassFile.FieldType)).before args0 about1 = true := code_word (m := ⟨10, 0⟩) (meth := k10m0) (c := k10c0) (by decide +kernel) rfl rfl rfl (by decide +kernel)
set_option maxRecDepth 65536 in
theorem w_c6 : (Jvm.Cond.code ({ cls := "java/util/Objects", name := "requireNonNull", desc := "(Ljava/lang/Object;)Ljava/lang/Object;" } : Jvm.MethodName) jdk_31_method_10_code (1 : Nat) (Option.some (Jvm.ClassFile.FieldType.object "java/lang/Object"))).before args0 about1 = true := code_word (m := ⟨11, 1⟩) (meth := k11m1) (c := k11c1) (by decide +kernel) rfl rfl rfl (by decide +kernel)
set_option maxRecDepth 65536 in
theorem w_c7 : (Jvm.Cond.code ({ cls := "com/example/bridgr/bridgr/spec/Variable", name := "checkDeclaration", desc := "(Lcom/example/bridgr/bridgr/spec/Section;)Lcom/example/bridgr/bridgr/spec/Section;" } : Jvm.MethodName) prog_30_method_3_code (1 : Nat) (Option.some (Jvm.ClassFile.FieldType.object "com/example/bridgr/bridgr/spec/Section"))).before args0 about1 = true := code_word (m := ⟨10, 1⟩) (meth := k10m1) (c := k10c1) (by decide +kernel) rfl rfl rfl (by decide +kernel)
set_option maxRecDepth 65536 in
theorem w_c8 : (Jvm.Cond.code ({ cls := "com/example/bridgr/bridgr/spec/Section", name := "declaresVariables", desc := "()Z" } : Jvm.MethodName) prog_19_method_6_code (1 : Nat) (Option.some Jvm.ClassFile.FieldType.boolean)).before args0 about1 = true := code_word (m := ⟨6, 0⟩) (meth := k6m0) (c := k6c0) (by decide +kernel) rfl rfl rfl (by decide +kernel)
set_option maxRecDepth 65536 in
theorem w_c9 : (Jvm.Cond.code ({ cls := "com/example/bridgr/bridgr/spec/Variable", name := "isInteger", desc := "()Z" } : Jvm.MethodName) prog_30_method_7_code (1 : Nat) (Option.some Jvm.ClassFile.FieldType.boolean)).before args0 about1 = true := code_word (m := ⟨10, 2⟩) (meth := k10m2) (c := k10c2) (by decide +kernel) rfl rfl rfl (by decide +kernel)
set_option maxRecDepth 65536 in
theorem w_c10 : (Jvm.Cond.code ({ cls := "com/example/bridgr/bridgr/spec/Variable", name := "lowest", desc := "()Ljava/math/BigInteger;" } : Jvm.MethodName) prog_30_method_8_code (1 : Nat) (Option.some (Jvm.ClassFile.FieldType.object "java/math/BigInteger"))).before args0 about1 = true := code_word (m := ⟨10, 3⟩) (meth := k10m3) (c := k10c3) (by decide +kernel) rfl rfl rfl (by decide +kernel)
set_option maxRecDepth 65536 in
theorem w_c11 : (Jvm.Cond.code ({ cls := "com/example/bridgr/bridgr/spec/Variable", name := "highest", desc := "()Ljava/math/BigInteger;" } : Jvm.MethodName) prog_30_method_9_code (1 : Nat) (Option.some (Jvm.ClassFile.FieldType.object "java/math/BigInteger"))).before args0 about1 = true := code_word (m := ⟨10, 4⟩) (meth := k10m4) (c := k10c4) (by decide +kernel) rfl rfl rfl (by decide +kernel)
set_option maxRecDepth 65536 in
theorem w_c12 : (Jvm.Cond.code ({ cls := "java/lang/StringUTF16", name := "compress", desc := "([CII)[B" } : Jvm.MethodName) jdk_52_method_16_code (6 : Nat) (Option.some (Jvm.ClassFile.FieldType.array Jvm.ClassFile.FieldType.byte))).before args0 about1 = true := code_word (m := ⟨12, 2⟩) (meth := k12m2) (c := k12c2) (by decide +kernel) rfl rfl rfl (by decide +kernel)
set_option maxRecDepth 65536 in
theorem w_c13 : (Jvm.Cond.code ({ cls := "java/lang/StringUTF16", name := "compress", desc := "([CI[BII)I" } : Jvm.MethodName) jdk_52_method_21_code (7 : Nat) (Option.some Jvm.ClassFile.FieldType.int)).before args0 about1 = true := code_word (m := ⟨12, 3⟩) (meth := k12m3) (c := k12c3) (by decide +kernel) rfl rfl rfl (by decide +kernel)
set_option maxRecDepth 65536 in
theorem w_c14 : (Jvm.Cond.code ({ cls := "java/lang/StringUTF16", name := "coderFromArrayLen", desc := "([BI)B" } : Jvm.MethodName) jdk_52_method_15_code (2 : Nat) (Option.some Jvm.ClassFile.FieldType.byte)).before args0 about1 = true := code_word (m := ⟨12, 1⟩) (meth := k12m1) (c := k12c1) (by decide +kernel) rfl rfl rfl (by decide +kernel)
def codes1 : List Jvm.Cond := [Jvm.Cond.code x code maxLocals ret, Jvm.Cond.code ({ cls := "com/example/bridgr/bridgr/spec/VariableIsIntegerPinLaw", name := "drawName", desc := "(III)Ljava/lang/String;" } : Jvm.MethodName) method_2_code (8 : Nat) (Option.some (Jvm.ClassFile.FieldType.object "java/lang/String")), Jvm.Cond.code ({ cls := "java/lang/String", name := "<init>", desc := "([C)V" } : Jvm.MethodName) jdk_42_method_3_code (2 : Nat) (Option.none : Option Jvm.ClassFile.FieldType), Jvm.Cond.code ({ cls := "java/lang/String", name := "<init>", desc := "([CIILjava/lang/Void;)V" } : Jvm.MethodName) jdk_42_method_149_code (6 : Nat) (Option.none : Option Jvm.ClassFile.FieldType), Jvm.Cond.code ({ cls := "java/lang/Object", name := "<init>", desc := "()V" } : Jvm.MethodName) object_method_1_code (1 : Nat) (Option.none : Option Jvm.ClassFile.FieldType), Jvm.Cond.code ({ cls := "com/example/bridgr/bridgr/spec/Variable", name := "<init>", desc := "(Ljava/lang/String;Lcom/example/bridgr/bridgr/spec/Section;)V" } : Jvm.MethodName) prog_30_method_1_code (3 : Nat) (Option.none : Option Jvm.ClassFile.FieldType), Jvm.Cond.code ({ cls := "java/util/Objects", name := "requireNonNull", desc := "(Ljava/lang/Object;)Ljava/lang/Object;" } : Jvm.MethodName) jdk_31_method_10_code (1 : Nat) (Option.some (Jvm.ClassFile.FieldType.object "java/lang/Object")), Jvm.Cond.code ({ cls := "com/example/bridgr/bridgr/spec/Variable", name := "checkDeclaration", desc := "(Lcom/example/bridgr/bridgr/spec/Section;)Lcom/example/bridgr/bridgr/spec/Section;" } : Jvm.MethodName) prog_30_method_3_code (1 : Nat) (Option.some (Jvm.ClassFile.FieldType.object "com/example/bridgr/bridgr/spec/Section")), Jvm.Cond.code ({ cls := "com/example/bridgr/bridgr/spec/Section", name := "declaresVariables", desc := "()Z" } : Jvm.MethodName) prog_19_method_6_code (1 : Nat) (Option.some Jvm.ClassFile.FieldType.boolean), Jvm.Cond.code ({ cls := "com/example/bridgr/bridgr/spec/Variable", name := "isInteger", desc := "()Z" } : Jvm.MethodName) prog_30_method_7_code (1 : Nat) (Option.some Jvm.ClassFile.FieldType.boolean), Jvm.Cond.code ({ cls := "com/example/bridgr/bridgr/spec/Variable", name := "lowest", desc := "()Ljava/math/BigInteger;" } : Jvm.MethodName) prog_30_method_8_code (1 : Nat) (Option.some (Jvm.ClassFile.FieldType.object "java/math/BigInteger")), Jvm.Cond.code ({ cls := "com/example/bridgr/bridgr/spec/Variable", name := "highest", desc := "()Ljava/math/BigInteger;" } : Jvm.MethodName) prog_30_method_9_code (1 : Nat) (Option.some (Jvm.ClassFile.FieldType.object "java/math/BigInteger")), Jvm.Cond.code ({ cls := "java/lang/StringUTF16", name := "compress", desc := "([CII)[B" } : Jvm.MethodName) jdk_52_method_16_code (6 : Nat) (Option.some (Jvm.ClassFile.FieldType.array Jvm.ClassFile.FieldType.byte)), Jvm.Cond.code ({ cls := "java/lang/StringUTF16", name := "compress", desc := "([CI[BII)I" } : Jvm.MethodName) jdk_52_method_21_code (7 : Nat) (Option.some Jvm.ClassFile.FieldType.int), Jvm.Cond.code ({ cls := "java/lang/StringUTF16", name := "coderFromArrayLen", desc := "([BI)B" } : Jvm.MethodName) jdk_52_method_15_code (2 : Nat) (Option.some Jvm.ClassFile.FieldType.byte)]
set_option maxRecDepth 65536 in
theorem codes_eq : words1.filter isCode = codes1 := rfl
theorem w_codes : ∀ c ∈ words1.filter isCode, c.before args0 about1 = true := by
  rw [codes_eq]
  intro c hc
  simp only [codes1, List.mem_cons, List.not_mem_nil, or_false] at hc
  rcases hc with rfl | rfl | rfl | rfl | rfl | rfl | rfl | rfl | rfl | rfl | rfl | rfl | rfl | rfl | rfl
  · exact w_c0
  · exact w_c1
  · exact w_c2
  · exact w_c3
  · exact w_c4
  · exact w_c5
  · exact w_c6
  · exact w_c7
  · exact w_c8
  · exact w_c9
  · exact w_c10
  · exact w_c11
  · exact w_c12
  · exact w_c13
  · exact w_c14
set_option maxRecDepth 65536 in
theorem w_t1 : (words1.take 24).all (fun c => isCode c || c.before args0 about1) = true := by decide +kernel
set_option maxRecDepth 65536 in
theorem w_t2 : ((words1.drop 24).take 24).all (fun c => isCode c || c.before args0 about1) = true := by decide +kernel
set_option maxRecDepth 65536 in
theorem w_t3 : (((words1.drop 24).drop 24).take 24).all (fun c => isCode c || c.before args0 about1) = true := by decide +kernel
set_option maxRecDepth 65536 in
theorem w_t4 : (((words1.drop 24).drop 24).drop 24).all (fun c => isCode c || c.before args0 about1) = true := by decide +kernel
theorem w_tables : (allAtoms (Jvm.Cond.code x code maxLocals ret :: tables_1)).before args0 about1 = true := by
  rw [allAtoms_all]
  show words1.all (fun c => c.before args0 about1) = true
  refine all_split ?_ w_codes
  rw [← List.take_append_drop 24 words1, List.all_append, w_t1, ← List.take_append_drop 24 (words1.drop 24), List.all_append, w_t2, ← List.take_append_drop 24 ((words1.drop 24).drop 24), List.all_append, w_t3, w_t4]
  rfl
set_option maxRecDepth 65536 in
theorem w_rest : rest_1_c.before args0 about1 = true := by decide +kernel
set_option maxRecDepth 65536 in
theorem w_case : (Jvm.Cond.and given_1 narrow_1).before args0 about1 = true := by decide +kernel
set_option maxRecDepth 65536 in
theorem w_consts : constsHeld consts_1 about1 := Jvm.Lit.constsHeldB_iff.mp (by decide +kernel)
theorem w_applies : (headSpec (Jvm.Cond.code x code maxLocals ret :: tables_1) room_1).applies x e0.platform about1 = true :=
  (Spec.applies_iff w_frames).mpr ⟨w_running, w_runnable, w_alone, w_named, w_hears, w_ripe, w_room, w_tables⟩
theorem atStart : AtStart classFile x code maxLocals ret World_1 tables_1 room_1 Calls_1 rest_1 Pre_1 launch0 p0 e0 about1 theMethod args0 below0 :=
  ⟨lists_1, trivial, launch0.admits_env _ _ _, launch0.least_env, fairChoices_fair.cas, fairChoices_fair.clock, w_frames, w_args, w_heap, w_applies, ⟨w_consts, trivial⟩, w_rest, w_case⟩
end start1
theorem witness_1 : WitnessClaimed_1 := ⟨start1.p0, start1.e0, start1.about1, start1.theMethod, start1.args0, start1.below0, start1.atStart⟩
end Jvm.Pilot.@@N@@
