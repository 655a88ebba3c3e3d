import JvmDerived
import JvmDerived.Pilot.@@N@@Statement
import JvmDerived.Pilot.@@N@@Code
set_option linter.unusedVariables false
set_option linter.unusedSimpArgs false
/- laws to paste: Road.backV (cut by pick.py; bodies as the Statement names them) -/
namespace Jvm.Pilot.@@N@@
namespace StrChars
open Jvm Sem ClassFile Op Lib Jvm.Stand Jvm.Free.XT Jvm.Free.ALB Jvm.Free.JM Jvm.Free
open Jvm.Lib.Cold (StaticIs)
/-- a char array whose places are chars -/
def Ch (a : Addr) (A : Cell) (U : State) : Prop := Arr .char a A U ∧ Typed .char A
theorem Ch.mv {a : Addr} {A : Cell} {U U' : State} (h : Ch a A U) (hal : U.vm.Alike U'.vm) (hh : U'.heap = U.heap) : Ch a A U' := ⟨h.1.mv hal hh, h.2⟩
theorem Ch.keep {a : Addr} {A : Cell} {U U' : State} (h : Ch a A U) (hal : U.vm.Alike U'.vm) (hk : U'.heap[a]? = some A) : Ch a A U' := ⟨h.1.keep hal hk, h.2⟩
/-- what place i of a char[]'s cell holds -/
def cv (A : Cell) (i : Nat) : Int32 := match A.slots[i]? with | some (.int x) => x | _ => 0
theorem Ch.get {a : Addr} {A : Cell} {U : State} (h : Ch a A U) {i : Nat} (hi : i < A.slots.size) : A.slots[i]? = some (.int (cv A i)) := by
  have e := Array.getElem?_eq_getElem hi
  have f := h.2 i _ e
  unfold cv; rw [e]
  generalize A.slots[i] = v at f
  cases v <;> simp [fits] at f ⊢
/-- the byte that i2b leaves of a char -/
def lo8 (x : Int32) : Int32 := x.toInt8.toInt32
theorem fits_lo8 (y : Int32) : fits .byte (.int (lo8 y)) = true := by
  have h1 := y.toInt8.le_toInt
  have h2 := y.toInt8.toInt_lt
  simp only [lo8, fits, Bool.and_eq_true, decide_eq_true_eq, Int32.le_iff_toInt_le, Int8.toInt_toInt32, show (-128 : Int32).toInt = -128 from by decide, show (127 : Int32).toInt = 127 from by decide]
  omega
/-- A' is A but that each place j of lo .. hi - 1 holds f j -/
def Laid (A A' : Cell) (lo hi : Nat) (f : Nat → Value) : Prop := A'.cls = A.cls ∧ A'.vm = A.vm ∧ A'.slots.size = A.slots.size ∧ ∀ i, A'.slots[i]? = if lo ≤ i ∧ i < hi then some (f i) else A.slots[i]?
theorem Laid.zero (A : Cell) (lo : Nat) (f : Nat → Value) : Laid A A lo (lo + 0) f := ⟨rfl, rfl, rfl, fun i => by rw [if_neg (by omega)]⟩
theorem Laid.step {A Ak : Cell} {lo k : Nat} {f : Nat → Value} {v : Value} (h : Laid A Ak lo k f) (hlo : lo ≤ k) (hk : k < Ak.slots.size) (hv : v = f k) : Laid A (Ak.setSlot k v) lo (k + 1) f := by
  refine ⟨h.1, h.2.1, by simpa [Cell.setSlot] using h.2.2.1, fun i => ?_⟩
  by_cases e : k = i
  · subst e; rw [Cell.slots_setSlot_self v hk, if_pos (by omega), hv]
  · rw [Cell.slots_setSlot_ne v e, h.2.2.2 i]
    by_cases q : lo ≤ i ∧ i < k
    · rw [if_pos q, if_pos (by omega)]
    · rw [if_neg q, if_neg (by omega)]
def U16 : String := "java/lang/StringUTF16"
namespace Cmp5
def yN : MethodName := ⟨"java/lang/StringUTF16", "compress", "([CI[BII)I"⟩
abbrev yB : ByteArray := jdk_52_method_21_code
theorem d0 : decode yB 0 = .ok (.iconst 0, 1) := by decide +kernel
theorem d1 : decode yB 1 = .ok (.istore 5, 2) := by decide +kernel
theorem d3 : decode yB 3 = .ok (.iload 5, 2) := by decide +kernel
theorem d5 : decode yB 5 = .ok (.iload 4, 2) := by decide +kernel
theorem d7 : decode yB 7 = .ok (.if_icmp (.ge) 37, 3) := by decide +kernel
theorem d10 : decode yB 10 = .ok (.aload_n 0, 1) := by decide +kernel
theorem d11 : decode yB 11 = .ok (.iload_n 1, 1) := by decide +kernel
theorem d12 : decode yB 12 = .ok (.caload, 1) := by decide +kernel
theorem d13 : decode yB 13 = .ok (.istore 6, 2) := by decide +kernel
theorem d15 : decode yB 15 = .ok (.iload 6, 2) := by decide +kernel
theorem d17 : decode yB 17 = .ok (.sipush 255, 3) := by decide +kernel
theorem d20 : decode yB 20 = .ok (.if_icmp (.le) 6, 3) := by decide +kernel
theorem d26 : decode yB 26 = .ok (.aload_n 2, 1) := by decide +kernel
theorem d27 : decode yB 27 = .ok (.iload_n 3, 1) := by decide +kernel
theorem d28 : decode yB 28 = .ok (.iload 6, 2) := by decide +kernel
theorem d30 : decode yB 30 = .ok (.i2b, 1) := by decide +kernel
theorem d31 : decode yB 31 = .ok (.bastore, 1) := by decide +kernel
theorem d32 : decode yB 32 = .ok (.iinc 1 1, 3) := by decide +kernel
theorem d35 : decode yB 35 = .ok (.iinc 3 1, 3) := by decide +kernel
theorem d38 : decode yB 38 = .ok (.iinc 5 1, 3) := by decide +kernel
theorem d41 : decode yB 41 = .ok (.goto (-38), 3) := by decide +kernel
theorem d44 : decode yB 44 = .ok (.iload 4, 2) := by decide +kernel
theorem d46 : decode yB 46 = .ok (.ireturn, 1) := by decide +kernel
def site : List Cond := []
def tab : Cond := tabOf yN yB 7 (some .int) site
def P (b : Addr) (A : Cell) (d : Addr) (B : Cell) (o q len : Nat) (args : Array Value) (s : State) : Prop := args = #[.ref b, .int (Int32.ofNat o), .ref d, .int (Int32.ofNat q), .int (Int32.ofNat len)] ∧ Ch b A s ∧ Arr .byte d B s ∧ b ≠ d ∧ o + len ≤ A.slots.size ∧ q + len ≤ B.slots.size ∧ ∀ i, i < len → ¬ 255 < cv A (o + i)
def E (b : Addr) (A : Cell) (d : Addr) (B : Cell) (o q len : Nat) (r : Option Value) (s u : State) : Prop := r = some (.int (Int32.ofNat len)) ∧ ∃ B', Put d B' s u ∧ Laid B B' q (q + len) (fun j => Value.int (lo8 (cv A (o + (j - q)))))
/-- no char of the range above 255: len; the places written hold each char's low byte -/
theorem law (l : Launch) (b : Addr) (A : Cell) (d : Addr) (B : Cell) (o q len : Nat) : Law l yN 5 5 0 0 yB 7 (some .int) site (P b A d B o q len) (E b A d B o q len) (copyLocs d q len) 0 0 := by
  refine Law.of_walk (plainFor_of_name (by decide +kernel)) (by decide +kernel) (by decide +kernel) (by decide) (fun _ _ h => by rw [h.1]; rfl) (fun _ U U' hal hh h => ⟨h.1, h.2.1.mv hal hh, h.2.2.1.mv hal hh, h.2.2.2⟩) (fun r U U' V V' h1 hal h2 h => ⟨h.1, h.2.elim fun B' q => ⟨B', q.1.mv h1 h2, q.2⟩⟩) ?_
  intro p e s m args below meth c s₁ X0 hexec hbytes hml hret hlk hnm hown hh0 W hP
  obtain ⟨rfl, hA, hB, hne, l1, l2, hp⟩ := hP
  have c1 : Steps p.tables e below (s₁.setTop (entryFrame m #[.ref b, .int (Int32.ofNat o), .ref d, .int (Int32.ofNat q), .int (Int32.ofNat len)] 7)) (s₁.setTop (mkF m 0 #[.val (.ref b), .val (.int (Int32.ofNat o)), .val (.ref d), .val (.int (Int32.ofNat q)), .val (.int (Int32.ofNat len)), .unset, .unset] [])) := entry rfl
  have hA0 := hA.1.mv X0.warmed.alike hh0
  have hB0 := hB.mv X0.warmed.alike hh0
  have a31 := hA.1.2.2.2
  have c2 : Steps p.tables e below (s₁.setTop (entryFrame m #[.ref b, .int (Int32.ofNat o), .ref d, .int (Int32.ofNat q), .int (Int32.ofNat len)] 7)) (s₁.setTop (mkF m 3 #[.val (.ref b), .val (.int (Int32.ofNat o)), .val (.ref d), .val (.int (Int32.ofNat q)), .val (.int (Int32.ofNat len)), .val (.int 0), .unset] [])) := c1.trans (by
    refine iconstV X0.here hexec rfl 0 (hb hbytes d0) (by decide) ?_
    refine XS.istore X0.here hexec rfl (hb hbytes d1) rfl rfl ?_
    exact Steps.refl _)
  have loop : ∀ (r i : Nat), i + r = len → ∀ (z : Slot), (z = .unset ∨ ∃ w, z = .val w ∧ w.category = 1) → ∀ (Tl : State) (Bk : Cell), Stand p l e { frames := 0, locals := 0, cells := 0, slots := 0 } s m #[.ref b, .int (Int32.ofNat o), .ref d, .int (Int32.ofNat q), .int (Int32.ofNat len)] below meth c Tl ([] ++ copyLocs d q i) 0 0 → Put d Bk s₁ Tl → Laid B Bk q (q + i) (fun j => Value.int (lo8 (cv A (o + (j - q))))) →
      Steps p.tables e below (s₁.setTop (entryFrame m #[.ref b, .int (Int32.ofNat o), .ref d, .int (Int32.ofNat q), .int (Int32.ofNat len)] 7)) (Tl.setTop (mkF m 3 #[.val (.ref b), .val (.int (Int32.ofNat (o + i))), .val (.ref d), .val (.int (Int32.ofNat (q + i))), .val (.int (Int32.ofNat len)), .val (.int (Int32.ofNat i)), z] [])) → ∃ (T' : State) (B' : Cell) (z' : Slot), Stand p l e { frames := 0, locals := 0, cells := 0, slots := 0 } s m #[.ref b, .int (Int32.ofNat o), .ref d, .int (Int32.ofNat q), .int (Int32.ofNat len)] below meth c T' ([] ++ copyLocs d q len) 0 0 ∧ Put d B' s₁ T' ∧ Laid B B' q (q + len) (fun j => Value.int (lo8 (cv A (o + (j - q))))) ∧
      Steps p.tables e below (s₁.setTop (entryFrame m #[.ref b, .int (Int32.ofNat o), .ref d, .int (Int32.ofNat q), .int (Int32.ofNat len)] 7)) (T'.setTop (mkF m 3 #[.val (.ref b), .val (.int (Int32.ofNat (o + len))), .val (.ref d), .val (.int (Int32.ofNat (q + len))), .val (.int (Int32.ofNat len)), .val (.int (Int32.ofNat len)), z'] [])) := by
    intro r
    induction r with
    | zero =>
      intro i hi z hz Tl Bk Xl pl fl cl
      have hil : i = len := by omega
      rw [hil] at Xl fl cl
      exact ⟨Tl, Bk, z, Xl, pl, fl, cl⟩
    | succ r ih =>
      intro i hi z hz Tl Bk Xl pl fl cl
      have all := X0.warmed.alike.symm.trans Xl.warmed.alike
      have hAl := hA0.keep all (pl.other hne hA0.1)
      have hBk := hB0.like all pl.1 fl.1 fl.2.1 fl.2.2.1
      have hlt : q + i < Bk.slots.size := by rw [fl.2.2.1]; omega
      have c3 : Steps p.tables e below (s₁.setTop (entryFrame m #[.ref b, .int (Int32.ofNat o), .ref d, .int (Int32.ofNat q), .int (Int32.ofNat len)] 7)) (Tl.setTop (mkF m 12 #[.val (.ref b), .val (.int (Int32.ofNat (o + i))), .val (.ref d), .val (.int (Int32.ofNat (q + i))), .val (.int (Int32.ofNat len)), .val (.int (Int32.ofNat i)), z] [.int (Int32.ofNat (o + i)), .ref b])) := cl.trans (by
        refine XS.iload Xl.here hexec rfl (hb hbytes d3) rfl ?_
        refine XS.iload Xl.here hexec rfl (hb hbytes d5) rfl ?_
        refine XS.icmpNo Xl.here hexec rfl (hb hbytes d7) rfl (ii_ge_f (lt32 (by omega) (by omega))) ?_
        refine XS.aloadN Xl.here hexec rfl (hb hbytes d10) rfl rfl ?_
        refine XS.iloadN Xl.here hexec rfl (hb hbytes d11) rfl ?_
        exact Steps.refl _)
      have c4 : Steps p.tables e below (s₁.setTop (entryFrame m #[.ref b, .int (Int32.ofNat o), .ref d, .int (Int32.ofNat q), .int (Int32.ofNat len)] 7)) (Tl.setTop (mkF m 13 #[.val (.ref b), .val (.int (Int32.ofNat (o + i))), .val (.ref d), .val (.int (Int32.ofNat (q + i))), .val (.int (Int32.ofNat len)), .val (.int (Int32.ofNat i)), z] [.int (cv A (o + i))])) := c3.trans (by
        refine Xl.aget hexec hAl rfl (hA.get (i := o + i) (by omega)) rfl rfl (hb hbytes d12) ?_
        exact Steps.refl _)
      have c5 : Steps p.tables e below (s₁.setTop (entryFrame m #[.ref b, .int (Int32.ofNat o), .ref d, .int (Int32.ofNat q), .int (Int32.ofNat len)] 7)) (Tl.setTop (mkF m 15 #[.val (.ref b), .val (.int (Int32.ofNat (o + i))), .val (.ref d), .val (.int (Int32.ofNat (q + i))), .val (.int (Int32.ofNat len)), .val (.int (Int32.ofNat i)), .val (.int (cv A (o + i)))] [])) := c4.trans (by
        refine XS.istoreS Xl.here hexec rfl (hb hbytes d13) rfl rfl hz ?_
        exact Steps.refl _)
      have c6 : Steps p.tables e below (s₁.setTop (entryFrame m #[.ref b, .int (Int32.ofNat o), .ref d, .int (Int32.ofNat q), .int (Int32.ofNat len)] 7)) (Tl.setTop (mkF m 31 #[.val (.ref b), .val (.int (Int32.ofNat (o + i))), .val (.ref d), .val (.int (Int32.ofNat (q + i))), .val (.int (Int32.ofNat len)), .val (.int (Int32.ofNat i)), .val (.int (cv A (o + i)))] [.int (lo8 (cv A (o + i))), .int (Int32.ofNat (q + i)), .ref d])) := c5.trans (by
        refine XS.iload Xl.here hexec rfl (hb hbytes d15) rfl ?_
        refine sipushV Xl.here hexec rfl 255 (hb hbytes d17) (by decide) ?_
        refine XS.icmpYes Xl.here hexec rfl (pc0 := 20) rfl (hb hbytes d20) rfl (ii_le_t (hp i (by omega))) (by decide) rfl ?_
        refine XS.aloadN Xl.here hexec rfl (hb hbytes d26) rfl rfl ?_
        refine XS.iloadN Xl.here hexec rfl (hb hbytes d27) rfl ?_
        refine XS.iload Xl.here hexec rfl (hb hbytes d28) rfl ?_
        refine i2b Xl.here hexec rfl (hb hbytes d30) rfl ?_
        exact Steps.refl _)
      obtain ⟨T7, X7, p7, st7⟩ := Xl.aput hexec hBk rfl hlt rfl (fits_lo8 (cv A (o + i))) (g := (mkF m 31 #[.val (.ref b), .val (.int (Int32.ofNat (o + i))), .val (.ref d), .val (.int (Int32.ofNat (q + i))), .val (.int (Int32.ofNat len)), .val (.int (Int32.ofNat i)), .val (.int (cv A (o + i)))] [.int (lo8 (cv A (o + i))), .int (Int32.ofNat (q + i)), .ref d])) rfl (rest := []) rfl (hb hbytes d31)
      have c8 : Steps p.tables e below (s₁.setTop (entryFrame m #[.ref b, .int (Int32.ofNat o), .ref d, .int (Int32.ofNat q), .int (Int32.ofNat len)] 7)) (T7.setTop (mkF m 32 #[.val (.ref b), .val (.int (Int32.ofNat (o + i))), .val (.ref d), .val (.int (Int32.ofNat (q + i))), .val (.int (Int32.ofNat len)), .val (.int (Int32.ofNat i)), .val (.int (cv A (o + i)))] [])) := c6.trans (st7 _ (Steps.refl _))
      have c9 : Steps p.tables e below (s₁.setTop (entryFrame m #[.ref b, .int (Int32.ofNat o), .ref d, .int (Int32.ofNat q), .int (Int32.ofNat len)] 7)) (T7.setTop (mkF m 3 #[.val (.ref b), .val (.int (Int32.ofNat (o + i) + 1)), .val (.ref d), .val (.int (Int32.ofNat (q + i) + 1)), .val (.int (Int32.ofNat len)), .val (.int (Int32.ofNat i + 1)), .val (.int (cv A (o + i)))] [])) := c8.trans (by
        refine iincV X7.here hexec rfl 1 (hb hbytes d32) (by decide) rfl rfl ?_
        refine iincV X7.here hexec rfl 1 (hb hbytes d35) (by decide) rfl rfl ?_
        refine iincV X7.here hexec rfl 1 (hb hbytes d38) (by decide) rfl rfl ?_
        refine XS.goto X7.here hexec rfl (pc0 := 41) rfl (hb hbytes d41) (by decide) rfl ?_
        exact Steps.refl _)
      have c10 : Steps p.tables e below (s₁.setTop (entryFrame m #[.ref b, .int (Int32.ofNat o), .ref d, .int (Int32.ofNat q), .int (Int32.ofNat len)] 7)) (T7.setTop (mkF m 3 #[.val (.ref b), .val (.int (Int32.ofNat (o + (i + 1)))), .val (.ref d), .val (.int (Int32.ofNat (q + (i + 1)))), .val (.int (Int32.ofNat len)), .val (.int (Int32.ofNat (i + 1))), .val (.int (cv A (o + i)))] [])) := by
        have := c9
        rw [succ32, succ32, succ32] at this
        exact this
      exact ih (i + 1) (by omega) _ (Or.inr ⟨_, rfl, rfl⟩) T7 _ (by rw [copyLocs_step, ← List.append_assoc]; exact X7) (pl.trans p7) (fl.step (by omega) hlt (by simp)) c10
  obtain ⟨T9, B9, z9, X9, p9, f9, g9⟩ := loop len 0 (by omega) .unset (Or.inl rfl) s₁ B (by simpa [copyLocs] using X0) ⟨hB0.1, fun _ _ => rfl, rfl⟩ (Laid.zero _ _ _) c2
  have c11 : Steps p.tables e below (s₁.setTop (entryFrame m #[.ref b, .int (Int32.ofNat o), .ref d, .int (Int32.ofNat q), .int (Int32.ofNat len)] 7)) (T9.setTop (mkF m 46 #[.val (.ref b), .val (.int (Int32.ofNat (o + len))), .val (.ref d), .val (.int (Int32.ofNat (q + len))), .val (.int (Int32.ofNat len)), .val (.int (Int32.ofNat len)), z9] [.int (Int32.ofNat len)])) := g9.trans (by
    refine XS.iload X9.here hexec rfl (hb hbytes d3) rfl ?_
    refine XS.iload X9.here hexec rfl (hb hbytes d5) rfl ?_
    refine XS.icmpYes X9.here hexec rfl (pc0 := 7) rfl (hb hbytes d7) rfl (ii_ge_t (nlt32 (by omega) (Nat.le_refl _))) (by decide) rfl ?_
    refine XS.iload X9.here hexec rfl (hb hbytes d44) rfl ?_
    exact Steps.refl _)
  exact ⟨T9, some (.int (Int32.ofNat len)), _, _, _, X9, by simp, rfl, rfl, (fun h => by cases h), ⟨rfl, B9, p9.from hh0, f9⟩, fun fs hl => c11.trans (X9.ireturnOut hexec hret rfl (Or.inl rfl) (hb hbytes d46) hl)⟩
end Cmp5
namespace Cmp3
def yN : MethodName := ⟨"java/lang/StringUTF16", "compress", "([CII)[B"⟩
abbrev yB : ByteArray := jdk_52_method_16_code
theorem d0 : decode yB 0 = .ok (.iload_n 2, 1) := by decide +kernel
theorem d1 : decode yB 1 = .ok (.newarray .byte, 2) := by decide +kernel
theorem d3 : decode yB 3 = .ok (.astore_n 3, 1) := by decide +kernel
theorem d4 : decode yB 4 = .ok (.aload_n 0, 1) := by decide +kernel
theorem d5 : decode yB 5 = .ok (.iload_n 1, 1) := by decide +kernel
theorem d6 : decode yB 6 = .ok (.aload_n 3, 1) := by decide +kernel
theorem d7 : decode yB 7 = .ok (.iconst 0, 1) := by decide +kernel
theorem d8 : decode yB 8 = .ok (.iload_n 2, 1) := by decide +kernel
theorem d9 : decode yB 9 = .ok (.invokestatic 115, 3) := by decide +kernel
theorem d12 : decode yB 12 = .ok (.istore 4, 2) := by decide +kernel
theorem d14 : decode yB 14 = .ok (.iload 4, 2) := by decide +kernel
theorem d16 : decode yB 16 = .ok (.iload_n 2, 1) := by decide +kernel
theorem d17 : decode yB 17 = .ok (.if_icmp (.eq) 40, 3) := by decide +kernel
theorem d57 : decode yB 57 = .ok (.aload_n 3, 1) := by decide +kernel
theorem d58 : decode yB 58 = .ok (.areturn, 1) := by decide +kernel
def site : List Cond := [.arrayClass .byte, Cmp5.tab] ++ staticW U16 115 Cmp5.yN
def tab : Cond := tabOf yN yB 6 (some (.array .byte)) site
def P (b : Addr) (A : Cell) (o len : Nat) (args : Array Value) (s : State) : Prop := args = #[.ref b, .int (Int32.ofNat o), .int (Int32.ofNat len)] ∧ Ch b A s ∧ o + len ≤ A.slots.size ∧ len ≤ 536870912 ∧ ∀ i, i < len → ¬ 255 < cv A (o + i)
def E (b : Addr) (A : Cell) (o len : Nat) (r : Option Value) (s u : State) : Prop := NewArr .byte "[B" len (fun j => .int (lo8 (cv A (o + j)))) r s u ∧ u.heap.size = s.heap.size + 1
/-- no char of the range above 255: a new byte[] of their low bytes -/
theorem law (l : Launch) (b : Addr) (A : Cell) (o len : Nat) : Law l yN 3 3 1 18 yB 6 (some (.array .byte)) site (P b A o len) (E b A o len) [] 1 len := by
  refine Law.of_walk (plainFor_of_name (by decide +kernel)) (by decide +kernel) (by decide +kernel) (by decide) (fun _ _ h => by rw [h.1]; rfl) (fun _ U U' hal hh h => ⟨h.1, h.2.1.mv hal hh, h.2.2⟩) (fun r U U' V V' h1 hal h2 h => ⟨NewArr.mv r U U' V V' h1 hal h2 h.1, by rw [h1, h2]; exact h.2⟩) ?_
  intro p e s m args below meth c s₁ X0 hexec hbytes hml hret hlk hnm hown hh0 W hP
  obtain ⟨rfl, hA, l1, l2, hp⟩ := hP
  have a31 := hA.1.2.2.2
  have c1 : Steps p.tables e below (s₁.setTop (entryFrame m #[.ref b, .int (Int32.ofNat o), .int (Int32.ofNat len)] 6)) (s₁.setTop (mkF m 0 #[.val (.ref b), .val (.int (Int32.ofNat o)), .val (.int (Int32.ofNat len)), .unset, .unset, .unset] [])) := entry rfl
  have c2 : Steps p.tables e below (s₁.setTop (entryFrame m #[.ref b, .int (Int32.ofNat o), .int (Int32.ofNat len)] 6)) (s₁.setTop (mkF m 1 #[.val (.ref b), .val (.int (Int32.ofNat o)), .val (.int (Int32.ofNat len)), .unset, .unset, .unset] [.int (Int32.ofNat len)])) := c1.trans (by
    refine XS.iloadN X0.here hexec rfl (hb hbytes d0) rfl ?_
    exact Steps.refl _)
  obtain ⟨T3, B3, X3, ba3, bs3, bv3, bh3, bf3, st3⟩ := X0.anew hexec (atype := .byte) (wk W (.arrayClass .byte)) rfl (by show len * 1 ≤ _; omega) (by omega) (g := (mkF m 1 #[.val (.ref b), .val (.int (Int32.ofNat o)), .val (.int (Int32.ofNat len)), .unset, .unset, .unset] [.int (Int32.ofNat len)])) rfl (hb hbytes d1) (rest := []) rfl (Nat.le_refl _) (by show 0 + len ≤ len; omega)
  rw [hh0] at ba3 st3
  have kp3 : XT.Kept s T3 := (XT.Kept.of_eq hh0).push bh3
  have hA3 := hA.keep X3.warmed.alike (kp3 _ _ hA.1.1)
  have hne : b ≠ s.heap.size := hA.1.ne
  have c4 : Steps p.tables e below (s₁.setTop (entryFrame m #[.ref b, .int (Int32.ofNat o), .int (Int32.ofNat len)] 6)) (T3.setTop (mkF m 3 #[.val (.ref b), .val (.int (Int32.ofNat o)), .val (.int (Int32.ofNat len)), .unset, .unset, .unset] [.ref s.heap.size])) := c2.trans (st3 _ (Steps.refl _))
  have c5 : Steps p.tables e below (s₁.setTop (entryFrame m #[.ref b, .int (Int32.ofNat o), .int (Int32.ofNat len)] 6)) (T3.setTop (mkF m 9 #[.val (.ref b), .val (.int (Int32.ofNat o)), .val (.int (Int32.ofNat len)), .val (.ref s.heap.size), .unset, .unset] [.int (Int32.ofNat len), .int 0, .ref s.heap.size, .int (Int32.ofNat o), .ref b])) := c4.trans (by
    refine XS.astoreN X3.here hexec rfl (hb hbytes d3) rfl rfl rfl ?_
    refine XS.aloadN X3.here hexec rfl (hb hbytes d4) rfl rfl ?_
    refine XS.iloadN X3.here hexec rfl (hb hbytes d5) rfl ?_
    refine XS.aloadN X3.here hexec rfl (hb hbytes d6) rfl rfl ?_
    refine iconstV X3.here hexec rfl 0 (hb hbytes d7) (by decide) ?_
    refine XS.iloadN X3.here hexec rfl (hb hbytes d8) rfl ?_
    exact Steps.refl _)
  obtain ⟨v6, T6, X6, E6, g6⟩ := X3.callS hexec (Cmp5.law l b A s.heap.size B3 o 0 len) hown (wks W (staticW U16 115 Cmp5.yN)) (wk W Cmp5.tab) (W := 0) (Nat.le_of_ble_eq_true rfl) (Nat.le_of_ble_eq_true rfl) (Nat.le_refl _) (by show 0 + len + 0 ≤ len; omega) (g := (mkF m 9 #[.val (.ref b), .val (.int (Int32.ofNat o)), .val (.int (Int32.ofNat len)), .val (.ref s.heap.size), .unset, .unset] [.int (Int32.ofNat len), .int (Int32.ofNat 0), .ref s.heap.size, .int (Int32.ofNat o), .ref b])) rfl (by rw [hml]; rfl) c5 (argsL := [.ref b, .int (Int32.ofNat o), .ref s.heap.size, .int (Int32.ofNat 0), .int (Int32.ofNat len)]) (rest := []) rfl rfl (by show 2 * 0 + 0 ≤ _; decide) (hb hbytes d9) (⟨rfl, hA3, ba3, hne, l1, by rw [bs3]; simp, hp⟩)
  obtain ⟨rfl, B6, p6, f6⟩ := E6
  have c7 : Steps p.tables e below (s₁.setTop (entryFrame m #[.ref b, .int (Int32.ofNat o), .int (Int32.ofNat len)] 6)) (T6.setTop (mkF m 12 #[.val (.ref b), .val (.int (Int32.ofNat o)), .val (.int (Int32.ofNat len)), .val (.ref s.heap.size), .unset, .unset] [.int (Int32.ofNat len)])) := g6
  have c8 : Steps p.tables e below (s₁.setTop (entryFrame m #[.ref b, .int (Int32.ofNat o), .int (Int32.ofNat len)] 6)) (T6.setTop (mkF m 58 #[.val (.ref b), .val (.int (Int32.ofNat o)), .val (.int (Int32.ofNat len)), .val (.ref s.heap.size), .val (.int (Int32.ofNat len)), .unset] [.ref s.heap.size])) := c7.trans (by
    refine XS.istore X6.here hexec rfl (hb hbytes d12) rfl rfl ?_
    refine XS.iload X6.here hexec rfl (hb hbytes d14) rfl ?_
    refine XS.iloadN X6.here hexec rfl (hb hbytes d16) rfl ?_
    refine XS.icmpYes X6.here hexec rfl (pc0 := 17) rfl (hb hbytes d17) rfl (ii_eq_t rfl) (by decide) rfl ?_
    refine XS.aloadN X6.here hexec rfl (hb hbytes d57) rfl rfl ?_
    exact Steps.refl _)
  have X8 := X6.wide (L' := []) (cells' := 1) (slots' := len) (fun x hx hlt => by
    simp only [List.nil_append, copyLocs, List.mem_map, List.mem_range] at hx
    obtain ⟨i, -, rfl⟩ := hx
    exact absurd hlt (Nat.lt_irrefl _)) (Nat.le_refl _) (by omega)
  exact ⟨T6, some (.ref s.heap.size), _, _, _, X8, rfl, rfl, rfl, (fun h => by cases h), ⟨⟨rfl, B6, ba3.like (X3.warmed.alike.symm.trans X6.warmed.alike) p6.1 f6.1 f6.2.1 f6.2.2.1, f6.2.1.trans bv3, by rw [X6.warmed.alike.findClass, f6.1]; exact bf3, by rw [f6.2.2.1, bs3]; simp, fun j hj => by rw [f6.2.2.2 j, if_pos (by omega)]; rfl, kp3.put p6 (Nat.le_refl _)⟩, by rw [p6.2.2, bh3, hh0]; simp⟩, fun fs hl => c8.trans (X8.areturnOut hexec rfl hret rfl (hb hbytes d58) hl)⟩
end Cmp3
namespace CodL
def yN : MethodName := ⟨"java/lang/StringUTF16", "coderFromArrayLen", "([BI)B"⟩
abbrev yB : ByteArray := jdk_52_method_15_code
theorem d0 : decode yB 0 = .ok (.iload_n 1, 1) := by decide +kernel
theorem d1 : decode yB 1 = .ok (.aload_n 0, 1) := by decide +kernel
theorem d2 : decode yB 2 = .ok (.arraylength, 1) := by decide +kernel
theorem d3 : decode yB 3 = .ok (.isub, 1) := by decide +kernel
theorem d4 : decode yB 4 = .ok (.bipush 31, 2) := by decide +kernel
theorem d6 : decode yB 6 = .ok (.iushr, 1) := by decide +kernel
theorem d7 : decode yB 7 = .ok (.i2b, 1) := by decide +kernel
theorem d8 : decode yB 8 = .ok (.ireturn, 1) := by decide +kernel
def site : List Cond := []
def tab : Cond := tabOf yN yB 2 (some .byte) site
def P (d : Addr) (B : Cell) (args : Array Value) (s : State) : Prop := args = #[.ref d, .int (Int32.ofNat B.slots.size)] ∧ Arr .byte d B s
def E (r : Option Value) (s u : State) : Prop := XT.PureE (some (.int 0)) r s u
/-- an array as long as the number of chars: LATIN1 -/
theorem law (l : Launch) (d : Addr) (B : Cell) : Law l yN 2 2 0 0 yB 2 (some .byte) site (P d B) E [] 0 0 := by
  refine Law.of_walk (plainFor_of_name (by decide +kernel)) (by decide +kernel) (by decide +kernel) (by decide) (fun _ _ h => by rw [h.1]; rfl) (fun _ U U' hal hh h => ⟨h.1, h.2.mv hal hh⟩) (fun r U U' V V' h1 hal h2 h => XT.PureE.mv r U U' V V' h1 hal h2 h) ?_
  intro p e s m args below meth c s₁ X0 hexec hbytes hml hret hlk hnm hown hh0 W hP
  obtain ⟨rfl, hB⟩ := hP
  have hB0 := hB.mv X0.warmed.alike hh0
  have c1 : Steps p.tables e below (s₁.setTop (entryFrame m #[.ref d, .int (Int32.ofNat B.slots.size)] 2)) (s₁.setTop (mkF m 0 #[.val (.ref d), .val (.int (Int32.ofNat B.slots.size))] [])) := entry rfl
  have c2 : Steps p.tables e below (s₁.setTop (entryFrame m #[.ref d, .int (Int32.ofNat B.slots.size)] 2)) (s₁.setTop (mkF m 2 #[.val (.ref d), .val (.int (Int32.ofNat B.slots.size))] [.ref d, .int (Int32.ofNat B.slots.size)])) := c1.trans (by
    refine XS.iloadN X0.here hexec rfl (hb hbytes d0) rfl ?_
    refine XS.aloadN X0.here hexec rfl (hb hbytes d1) rfl rfl ?_
    exact Steps.refl _)
  have c3 : Steps p.tables e below (s₁.setTop (entryFrame m #[.ref d, .int (Int32.ofNat B.slots.size)] 2)) (s₁.setTop (mkF m 8 #[.val (.ref d), .val (.int (Int32.ofNat B.slots.size))] [.int (lo8 (ushr (Int32.ofNat B.slots.size - Int32.ofNat B.slots.size) 31))])) := c2.trans (by
    refine X0.alen hexec hB0 rfl rfl (hb hbytes d2) ?_
    refine XS.isub X0.here hexec rfl (hb hbytes d3) rfl ?_
    refine bipushV X0.here hexec rfl 31 (hb hbytes d4) (by decide) ?_
    refine iushr X0.here hexec rfl (hb hbytes d6) rfl ?_
    refine i2b X0.here hexec rfl (hb hbytes d7) rfl ?_
    exact Steps.refl _)
  have e0 : lo8 (ushr (Int32.ofNat B.slots.size - Int32.ofNat B.slots.size) 31) = 0 := by rw [Int32.sub_self]; decide
  rw [e0] at c3
  exact ⟨s₁, some (.int 0), _, _, _, X0, rfl, rfl, rfl, (fun h => by cases h), ⟨rfl, hh0⟩, fun fs hl => c3.trans (X0.ireturnOut hexec hret rfl (Or.inr (Or.inr (Or.inl rfl))) (hb hbytes d8) hl)⟩
end CodL
/-- the String at a is Latin-1 over a new byte[] (the heap's one new cell): the low bytes of the len chars of A from o on; every cell but a is kept -/
def Got (a : Addr) (D : Cell) (fV fC : Field) (A : Cell) (o len : Nat) (r : Option Value) (s u : State) : Prop := r = none ∧ ∃ D' V : Cell, Blank "java/lang/String" a D' u ∧ Same D D' [fV.slot, fC.slot] ∧ D'.slots[fV.slot]? = some (.ref s.heap.size) ∧ D'.slots[fC.slot]? = some (.int 0) ∧ Arr .byte s.heap.size V u ∧ V.vm = .none ∧ u.vm.findClass "[B" = some V.cls ∧ V.slots.size = len ∧ (∀ j, j < len → V.slots[j]? = some (.int (lo8 (cv A (o + j))))) ∧ (∀ (y : Addr) (c : Cell), y ≠ a → s.heap[y]? = some c → u.heap[y]? = some c) ∧ u.heap.size = s.heap.size + 1
theorem Got.mv {a : Addr} {D A : Cell} {fV fC : Field} {o len : Nat} : ∀ r (U U' V V' : State), U'.heap = U.heap → V.vm.Alike V'.vm → V'.heap = V.heap → Got a D fV fC A o len r U V → Got a D fV fC A o len r U' V' :=
  fun r U U' V V' h1 hal h2 ⟨e0, D', X, a1, a2, a3, a4, a5, a6, a7, a8, a9, a10, a11⟩ => ⟨e0, D', X, a1.mv hal h2, a2, by rw [h1]; exact a3, a4, by rw [h1]; exact a5.mv hal h2, a6, by rw [hal.findClass]; exact a7, a8, a9, by rw [h1, h2]; exact a10, by rw [h1, h2]; exact a11⟩
namespace New4
def yN : MethodName := ⟨"java/lang/String", "<init>", "([CIILjava/lang/Void;)V"⟩
abbrev yB : ByteArray := jdk_42_method_149_code
theorem d0 : decode yB 0 = .ok (.aload_n 0, 1) := by decide +kernel
theorem d1 : decode yB 1 = .ok (.invokespecial 1, 3) := by decide +kernel
theorem d4 : decode yB 4 = .ok (.iload_n 3, 1) := by decide +kernel
theorem d5 : decode yB 5 = .ok (.ifCond (.ne) 22, 3) := by decide +kernel
theorem d27 : decode yB 27 = .ok (.getstatic 38, 3) := by decide +kernel
theorem d30 : decode yB 30 = .ok (.ifCond (.eq) 28, 3) := by decide +kernel
theorem d33 : decode yB 33 = .ok (.aload_n 1, 1) := by decide +kernel
theorem d34 : decode yB 34 = .ok (.iload_n 2, 1) := by decide +kernel
theorem d35 : decode yB 35 = .ok (.iload_n 3, 1) := by decide +kernel
theorem d36 : decode yB 36 = .ok (.invokestatic 177, 3) := by decide +kernel
theorem d39 : decode yB 39 = .ok (.astore 5, 2) := by decide +kernel
theorem d41 : decode yB 41 = .ok (.aload_n 0, 1) := by decide +kernel
theorem d42 : decode yB 42 = .ok (.aload 5, 2) := by decide +kernel
theorem d44 : decode yB 44 = .ok (.iload_n 3, 1) := by decide +kernel
theorem d45 : decode yB 45 = .ok (.invokestatic 47, 3) := by decide +kernel
theorem d48 : decode yB 48 = .ok (.putfield 15, 3) := by decide +kernel
theorem d51 : decode yB 51 = .ok (.aload_n 0, 1) := by decide +kernel
theorem d52 : decode yB 52 = .ok (.aload 5, 2) := by decide +kernel
theorem d54 : decode yB 54 = .ok (.putfield 9, 3) := by decide +kernel
theorem d57 : decode yB 57 = .ok (.return_, 1) := by decide +kernel
def site : List Cond := [.fieldLink "java/lang/String" 38 "java/lang/String" "COMPACT_STRINGS" "Z", Cmp3.tab, CodL.tab, .laysFinal "java/lang/String" "java/lang/String" "value" "[B", .fieldLink "java/lang/String" 9 "java/lang/String" "value" "[B", .laysFinal "java/lang/String" "java/lang/String" "coder" "B", .fieldLink "java/lang/String" 15 "java/lang/String" "coder" "B"] ++ objW "java/lang/String" 1 ++ staticW "java/lang/String" 177 Cmp3.yN ++ staticW "java/lang/String" 47 CodL.yN
def tab : Cond := tabOf yN yB 6 none site
def P (a : Addr) (D : Cell) (fV fC : Field) (b : Addr) (A : Cell) (z : Int32) (o len : Nat) (args : Array Value) (s : State) : Prop := args = #[.ref a, .ref b, .int (Int32.ofNat o), .int (Int32.ofNat len), .null] ∧ Blank "java/lang/String" a D s ∧ Found "java/lang/String" "value" "[B" fV s ∧ Found "java/lang/String" "coder" "B" fC s ∧ Ch b A s ∧ StaticIs s "java/lang/String" "COMPACT_STRINGS" "Z" (.int z) ∧ ¬ z = 0 ∧ 0 < len ∧ o + len ≤ A.slots.size ∧ len ≤ 536870912 ∧ ∀ i, i < len → ¬ 255 < cv A (o + i)
def E (a : Addr) (D : Cell) (fV fC : Field) (A : Cell) (o len : Nat) (r : Option Value) (s u : State) : Prop := Got a D fV fC A o len r s u
/-- len > 0, no char of the range above 255: a Latin-1 String of their low bytes -/
theorem law (l : Launch) (a : Addr) (D : Cell) (fV fC : Field) (b : Addr) (A : Cell) (z : Int32) (o len : Nat) : Law l yN 5 4 2 35 yB 6 none site (P a D fV fC b A z o len) (E a D fV fC A o len) [⟨a, fC.slot⟩, ⟨a, fV.slot⟩] 1 len := by
  refine Law.of_walk (plainFor_of_name (by decide +kernel)) (by decide +kernel) (by decide +kernel) (by decide) (fun _ _ h => by rw [h.1]; rfl) (fun _ U U' hal hh h => ⟨h.1, h.2.1.mv hal hh, h.2.2.1.al hal, h.2.2.2.1.al hal, h.2.2.2.2.1.mv hal hh, h.2.2.2.2.2.1.there hal hh, h.2.2.2.2.2.2⟩) (fun r U U' V V' h1 hal h2 h => Got.mv r U U' V V' h1 hal h2 h) ?_
  intro p e s m args below meth c s₁ X0 hexec hbytes hml hret hlk hnm hown hh0 W hP
  obtain ⟨rfl, hB, f1, f2, hA, s1, hz, l0, l1, l2, hp⟩ := hP
  have a31 := hA.1.2.2.2
  have c1 : Steps p.tables e below (s₁.setTop (entryFrame m #[.ref a, .ref b, .int (Int32.ofNat o), .int (Int32.ofNat len), .null] 6)) (s₁.setTop (mkF m 0 #[.val (.ref a), .val (.ref b), .val (.int (Int32.ofNat o)), .val (.int (Int32.ofNat len)), .val .null, .unset] [])) := entry rfl
  have c2 : Steps p.tables e below (s₁.setTop (entryFrame m #[.ref a, .ref b, .int (Int32.ofNat o), .int (Int32.ofNat len), .null] 6)) (s₁.setTop (mkF m 1 #[.val (.ref a), .val (.ref b), .val (.int (Int32.ofNat o)), .val (.int (Int32.ofNat len)), .val .null, .unset] [.ref a])) := c1.trans (by
    refine XS.aloadN X0.here hexec rfl (hb hbytes d0) rfl rfl ?_
    exact Steps.refl _)
  obtain ⟨T3, X3, q3, st3⟩ := X0.oinit hexec hown (wks W (objW "java/lang/String" 1)) (g := (mkF m 1 #[.val (.ref a), .val (.ref b), .val (.int (Int32.ofNat o)), .val (.int (Int32.ofNat len)), .val .null, .unset] [.ref a])) rfl (by rw [hml]; rfl) (rest := []) rfl (hb hbytes d1) (W := 0) (by show 2 * 0 + 0 ≤ _; decide) (Nat.le_of_ble_eq_true rfl) (Nat.le_of_ble_eq_true rfl)
  have hh3 := q3.trans hh0
  have c4 : Steps p.tables e below (s₁.setTop (entryFrame m #[.ref a, .ref b, .int (Int32.ofNat o), .int (Int32.ofNat len), .null] 6)) (T3.setTop (mkF m 27 #[.val (.ref a), .val (.ref b), .val (.int (Int32.ofNat o)), .val (.int (Int32.ofNat len)), .val .null, .unset] [])) := (c2.trans (st3 _ (Steps.refl _))).trans (by
    refine XS.iloadN X3.here hexec rfl (hb hbytes d4) rfl ?_
    refine XS.ifYes X3.here hexec rfl (pc0 := 5) rfl (hb hbytes d5) rfl (i0_ne_t (nz32 (by omega) l0)) (by decide) rfl ?_
    exact Steps.refl _)
  obtain ⟨T5, X5, q5, st5⟩ := X3.sget hexec hown (wk W (.fieldLink "java/lang/String" 38 "java/lang/String" "COMPACT_STRINGS" "Z")) s1 (fun _ _ h => by rw [hh3]; exact h) (g := (mkF m 27 #[.val (.ref a), .val (.ref b), .val (.int (Int32.ofNat o)), .val (.int (Int32.ofNat len)), .val .null, .unset] [])) rfl (hb hbytes d27)
  have hh5 := q5.trans hh3
  have c6 : Steps p.tables e below (s₁.setTop (entryFrame m #[.ref a, .ref b, .int (Int32.ofNat o), .int (Int32.ofNat len), .null] 6)) (T5.setTop (mkF m 30 #[.val (.ref a), .val (.ref b), .val (.int (Int32.ofNat o)), .val (.int (Int32.ofNat len)), .val .null, .unset] [.int z])) := c4.trans (st5 _ (Steps.refl _))
  have c7 : Steps p.tables e below (s₁.setTop (entryFrame m #[.ref a, .ref b, .int (Int32.ofNat o), .int (Int32.ofNat len), .null] 6)) (T5.setTop (mkF m 36 #[.val (.ref a), .val (.ref b), .val (.int (Int32.ofNat o)), .val (.int (Int32.ofNat len)), .val .null, .unset] [.int (Int32.ofNat len), .int (Int32.ofNat o), .ref b])) := c6.trans (by
    refine XS.ifNo X5.here hexec rfl (hb hbytes d30) rfl (i0_eq_f hz) ?_
    refine XS.aloadN X5.here hexec rfl (hb hbytes d33) rfl rfl ?_
    refine XS.iloadN X5.here hexec rfl (hb hbytes d34) rfl ?_
    refine XS.iloadN X5.here hexec rfl (hb hbytes d35) rfl ?_
    exact Steps.refl _)
  obtain ⟨v8, T8, X8, E8, g8⟩ := X5.callS hexec (Cmp3.law l b A o len) hown (wks W (staticW "java/lang/String" 177 Cmp3.yN)) (wk W Cmp3.tab) (W := 0) (Nat.le_of_ble_eq_true rfl) (Nat.le_of_ble_eq_true rfl) (Nat.le_refl _) (by show 0 + len ≤ len; omega) (g := (mkF m 36 #[.val (.ref a), .val (.ref b), .val (.int (Int32.ofNat o)), .val (.int (Int32.ofNat len)), .val .null, .unset] [.int (Int32.ofNat len), .int (Int32.ofNat o), .ref b])) rfl (by rw [hml]; rfl) c7 (argsL := [.ref b, .int (Int32.ofNat o), .int (Int32.ofNat len)]) (rest := []) rfl rfl (by show 2 * 0 + 0 ≤ _; decide) (hb hbytes d36) (⟨rfl, hA.mv X5.warmed.alike hh5, l1, l2, hp⟩)
  obtain ⟨e8, z8⟩ := E8
  obtain ⟨rfl, N, n1, n2, n3, n4, n5, n6⟩ := NewArr.mv _ T5 s _ _ hh5.symm (Vm.Alike.refl _) rfl e8
  rw [hh5] at z8
  have hB1 := hB.keep X8.warmed.alike (n6 _ _ hB.1)
  have hne : s.heap.size ≠ a := (Nat.ne_of_lt (Array.getElem?_eq_some_iff.mp hB.1).1).symm
  have c9 : Steps p.tables e below (s₁.setTop (entryFrame m #[.ref a, .ref b, .int (Int32.ofNat o), .int (Int32.ofNat len), .null] 6)) (T8.setTop (mkF m 39 #[.val (.ref a), .val (.ref b), .val (.int (Int32.ofNat o)), .val (.int (Int32.ofNat len)), .val .null, .unset] [.ref s.heap.size])) := g8
  have c10 : Steps p.tables e below (s₁.setTop (entryFrame m #[.ref a, .ref b, .int (Int32.ofNat o), .int (Int32.ofNat len), .null] 6)) (T8.setTop (mkF m 45 #[.val (.ref a), .val (.ref b), .val (.int (Int32.ofNat o)), .val (.int (Int32.ofNat len)), .val .null, .val (.ref s.heap.size)] [.int (Int32.ofNat N.slots.size), .ref s.heap.size, .ref a])) := by
    have hc : Steps p.tables e below (s₁.setTop (entryFrame m #[.ref a, .ref b, .int (Int32.ofNat o), .int (Int32.ofNat len), .null] 6)) (T8.setTop (mkF m 45 #[.val (.ref a), .val (.ref b), .val (.int (Int32.ofNat o)), .val (.int (Int32.ofNat len)), .val .null, .val (.ref s.heap.size)] [.int (Int32.ofNat len), .ref s.heap.size, .ref a])) := c9.trans (by
      refine XS.astore X8.here hexec rfl (hb hbytes d39) rfl rfl rfl ?_
      refine XS.aloadN X8.here hexec rfl (hb hbytes d41) rfl rfl ?_
      refine XS.aload X8.here hexec rfl (hb hbytes d42) rfl rfl ?_
      refine XS.iloadN X8.here hexec rfl (hb hbytes d44) rfl ?_
      exact Steps.refl _)
    rw [n4]; exact hc
  obtain ⟨v11, T11, X11, E11, g11⟩ := X8.callS hexec (CodL.law l s.heap.size N) hown (wks W (staticW "java/lang/String" 47 CodL.yN)) (wk W CodL.tab) (W := 1) (Nat.le_of_ble_eq_true rfl) (Nat.le_of_ble_eq_true rfl) (Nat.le_refl _) (by show 0 + len + 0 ≤ len; omega) (g := (mkF m 45 #[.val (.ref a), .val (.ref b), .val (.int (Int32.ofNat o)), .val (.int (Int32.ofNat len)), .val .null, .val (.ref s.heap.size)] [.int (Int32.ofNat N.slots.size), .ref s.heap.size, .ref a])) rfl (by rw [hml]; rfl) c10 (argsL := [.ref s.heap.size, .int (Int32.ofNat N.slots.size)]) (rest := [.ref a]) rfl rfl (by show 2 * 0 + (1 + 0) ≤ _; decide) (hb hbytes d45) (⟨rfl, n1⟩)
  obtain ⟨rfl, q11⟩ := E11
  have hB11 := hB1.mv (X8.warmed.alike.symm.trans X11.warmed.alike) q11
  have c12 : Steps p.tables e below (s₁.setTop (entryFrame m #[.ref a, .ref b, .int (Int32.ofNat o), .int (Int32.ofNat len), .null] 6)) (T11.setTop (mkF m 48 #[.val (.ref a), .val (.ref b), .val (.int (Int32.ofNat o)), .val (.int (Int32.ofNat len)), .val .null, .val (.ref s.heap.size)] [.int 0, .ref a])) := g11
  obtain ⟨T13, X13, p13, bl13, sl13, st13⟩ := X11.finit hexec hown (wk W (.fieldLink "java/lang/String" 15 "java/lang/String" "coder" "B")) (Or.inr ⟨_, (wk W (.laysFinal "java/lang/String" "java/lang/String" "coder" "B"))⟩) (Or.inl ⟨rfl, hnm⟩) f2 (Or.inl rfl) hB11 (t := .byte) (by decide +kernel) rfl (g := (mkF m 48 #[.val (.ref a), .val (.ref b), .val (.int (Int32.ofNat o)), .val (.int (Int32.ofNat len)), .val .null, .val (.ref s.heap.size)] [.int 0, .ref a])) rfl (rest := []) rfl (hb hbytes d48)
  have c14 : Steps p.tables e below (s₁.setTop (entryFrame m #[.ref a, .ref b, .int (Int32.ofNat o), .int (Int32.ofNat len), .null] 6)) (T13.setTop (mkF m 54 #[.val (.ref a), .val (.ref b), .val (.int (Int32.ofNat o)), .val (.int (Int32.ofNat len)), .val .null, .val (.ref s.heap.size)] [.ref s.heap.size, .ref a])) := (c12.trans (st13 _ (Steps.refl _))).trans (by
    refine XS.aloadN X13.here hexec rfl (hb hbytes d51) rfl rfl ?_
    refine XS.aload X13.here hexec rfl (hb hbytes d52) rfl rfl ?_
    exact Steps.refl _)
  obtain ⟨T15, X15, p15, bl15, sl15, st15⟩ := X13.finit hexec hown (wk W (.fieldLink "java/lang/String" 9 "java/lang/String" "value" "[B")) (Or.inr ⟨_, (wk W (.laysFinal "java/lang/String" "java/lang/String" "value" "[B"))⟩) (Or.inl ⟨rfl, hnm⟩) f1 (Or.inl rfl) bl13 (t := (.array .byte)) (by decide +kernel) rfl (g := (mkF m 54 #[.val (.ref a), .val (.ref b), .val (.int (Int32.ofNat o)), .val (.int (Int32.ofNat len)), .val .null, .val (.ref s.heap.size)] [.ref s.heap.size, .ref a])) rfl (rest := []) rfl (hb hbytes d54)
  have c16 : Steps p.tables e below (s₁.setTop (entryFrame m #[.ref a, .ref b, .int (Int32.ofNat o), .int (Int32.ofNat len), .null] 6)) (T15.setTop (mkF m 57 #[.val (.ref a), .val (.ref b), .val (.int (Int32.ofNat o)), .val (.int (Int32.ofNat len)), .val .null, .val (.ref s.heap.size)] [])) := c14.trans (st15 _ (Steps.refl _))
  have ap := apart (Or.inr ⟨_, (wk W (.laysFinal "java/lang/String" "java/lang/String" "value" "[B"))⟩) (Or.inr ⟨_, (wk W (.laysFinal "java/lang/String" "java/lang/String" "coder" "B"))⟩) f1 f2 (t₁ := .array .byte) (t₂ := .byte) (by decide +kernel) (by decide +kernel) (by decide)
  have al := X8.warmed.alike.symm.trans X15.warmed.alike
  have n7 : T11.heap[s.heap.size]? = some N := by rw [q11]; exact n1.1
  exact ⟨T15, none, _, _, _, X15, by simp, rfl, by omega, (fun _ => rfl), ⟨rfl, _, N, bl15, ((Same.refl D _).set _ (by simp)).set _ (by simp), sl15, (Cell.slots_setSlot_ne _ ap).trans sl13, n1.keep al (p15.other hne (p13.other hne n7)), n2, by rw [al.findClass]; exact n3, n4, n5, fun y c h1 h2 => p15.other h1 (p13.other h1 (by rw [q11]; exact n6 y c h2)), by rw [p15.2.2, p13.2.2, q11]; exact z8⟩, fun fs hl => c16.trans (X15.returnOut hexec hret (hb hbytes d57) hl)⟩
end New4
namespace New1
def yN : MethodName := ⟨"java/lang/String", "<init>", "([C)V"⟩
abbrev yB : ByteArray := jdk_42_method_3_code
theorem d0 : decode yB 0 = .ok (.aload_n 0, 1) := by decide +kernel
theorem d1 : decode yB 1 = .ok (.aload_n 1, 1) := by decide +kernel
theorem d2 : decode yB 2 = .ok (.iconst 0, 1) := by decide +kernel
theorem d3 : decode yB 3 = .ok (.aload_n 1, 1) := by decide +kernel
theorem d4 : decode yB 4 = .ok (.arraylength, 1) := by decide +kernel
theorem d5 : decode yB 5 = .ok (.aconst_null, 1) := by decide +kernel
theorem d6 : decode yB 6 = .ok (.invokespecial 27, 3) := by decide +kernel
theorem d9 : decode yB 9 = .ok (.return_, 1) := by decide +kernel
def site : List Cond := [New4.tab] ++ initW "java/lang/String" 27 New4.yN
def tab : Cond := tabOf yN yB 2 none site
def P (a : Addr) (D : Cell) (fV fC : Field) (b : Addr) (A : Cell) (z : Int32) (args : Array Value) (s : State) : Prop := args = #[.ref a, .ref b] ∧ Blank "java/lang/String" a D s ∧ Found "java/lang/String" "value" "[B" fV s ∧ Found "java/lang/String" "coder" "B" fC s ∧ Ch b A s ∧ StaticIs s "java/lang/String" "COMPACT_STRINGS" "Z" (.int z) ∧ ¬ z = 0 ∧ 0 < A.slots.size ∧ A.slots.size ≤ 536870912 ∧ ∀ i, i < A.slots.size → ¬ 255 < cv A i
def E (a : Addr) (D : Cell) (fV fC : Field) (A : Cell) (r : Option Value) (s u : State) : Prop := Got a D fV fC A 0 A.slots.size r s u
/-- new String(chars), not empty, no char above 255: a Latin-1 String of their low bytes -/
theorem law (l : Launch) (a : Addr) (D : Cell) (fV fC : Field) (b : Addr) (A : Cell) (z : Int32) : Law l yN 2 1 3 52 yB 2 none site (P a D fV fC b A z) (E a D fV fC A) [⟨a, fC.slot⟩, ⟨a, fV.slot⟩] 1 A.slots.size := by
  refine Law.of_walk (plainFor_of_name (by decide +kernel)) (by decide +kernel) (by decide +kernel) (by decide) (fun _ _ h => by rw [h.1]; rfl) (fun _ U U' hal hh h => ⟨h.1, h.2.1.mv hal hh, h.2.2.1.al hal, h.2.2.2.1.al hal, h.2.2.2.2.1.mv hal hh, h.2.2.2.2.2.1.there hal hh, h.2.2.2.2.2.2⟩) (fun r U U' V V' h1 hal h2 h => Got.mv r U U' V V' h1 hal h2 h) ?_
  intro p e s m args below meth c s₁ X0 hexec hbytes hml hret hlk hnm hown hh0 W hP
  obtain ⟨rfl, hB, f1, f2, hA, s1, hz, l0, l2, hp⟩ := hP
  have c1 : Steps p.tables e below (s₁.setTop (entryFrame m #[.ref a, .ref b] 2)) (s₁.setTop (mkF m 0 #[.val (.ref a), .val (.ref b)] [])) := entry rfl
  have c2 : Steps p.tables e below (s₁.setTop (entryFrame m #[.ref a, .ref b] 2)) (s₁.setTop (mkF m 6 #[.val (.ref a), .val (.ref b)] [.null, .int (Int32.ofNat A.slots.size), .int 0, .ref b, .ref a])) := c1.trans (by
    refine XS.aloadN X0.here hexec rfl (hb hbytes d0) rfl rfl ?_
    refine XS.aloadN X0.here hexec rfl (hb hbytes d1) rfl rfl ?_
    refine iconstV X0.here hexec rfl 0 (hb hbytes d2) (by decide) ?_
    refine XS.aloadN X0.here hexec rfl (hb hbytes d3) rfl rfl ?_
    refine X0.alen hexec (hA.1.mv X0.warmed.alike hh0) rfl rfl (hb hbytes d4) ?_
    refine XS.aconstNull X0.here hexec rfl (hb hbytes d5) ?_
    exact Steps.refl _)
  obtain ⟨v3, T3, X3, E3, g3⟩ := X0.callN hexec (New4.law l a D fV fC b A z 0 A.slots.size) rfl hown (wks W (initW "java/lang/String" 27 New4.yN)) (W New4.tab (by simp only [site, List.mem_cons, List.mem_append, true_or, or_true])) (W := 0) (Nat.le_of_ble_eq_true rfl) (Nat.le_of_ble_eq_true rfl) (Nat.le_refl _) (by show 0 + A.slots.size ≤ A.slots.size; omega) (g := (mkF m 6 #[.val (.ref a), .val (.ref b)] [.null, .int (Int32.ofNat A.slots.size), .int (Int32.ofNat 0), .ref b, .ref a])) rfl (by rw [hml]; rfl) c2 (argsL := [.ref b, .int (Int32.ofNat 0), .int (Int32.ofNat A.slots.size), .null]) (rest := []) rfl rfl (by show 2 * 0 + 0 ≤ _; decide) (hb hbytes d6) (⟨rfl, hB.mv X0.warmed.alike hh0, f1.al X0.warmed.alike, f2.al X0.warmed.alike, hA.mv X0.warmed.alike hh0, s1.there X0.warmed.alike hh0, hz, l0, by omega, l2, fun i hi => by rw [Nat.zero_add]; exact hp i hi⟩)
  have e0 := Got.mv _ s₁ s _ _ hh0.symm (Vm.Alike.refl _) rfl E3
  obtain rfl := e0.1
  have c4 : Steps p.tables e below (s₁.setTop (entryFrame m #[.ref a, .ref b] 2)) (T3.setTop (mkF m 9 #[.val (.ref a), .val (.ref b)] [])) := g3
  exact ⟨T3, none, _, _, _, X3, by simp, rfl, by omega, (fun _ => rfl), e0, fun fs hl => c4.trans (X3.returnOut hexec hret (hb hbytes d9) hl)⟩
theorem pays {l : Launch} {R : Room} {p : Program} {e : Env} {below : List Frame} {s : State} {sargs : Array Value} {len W : Nat} (a : Addr) (D : Cell) (fV fC : Field) (b : Addr) (A : Cell) (z : Int32) (htab : tab.before sargs s = true) (hfr : 4 ≤ R.frames) (hlo : W + 65 ≤ R.locals) :
    Back l R p e below s sargs yN len W (fun A₁ a₁ => A₁.cells + 1 ≤ R.cells ∧ A₁.slots + A.slots.size ≤ R.slots ∧ P a D fV fC b A z a₁ A₁.U) (fun A₁ _ v₁ B₁ => E a D fV fC A v₁ A₁.U B₁.U ∧ B₁.locs = A₁.locs ++ [⟨a, fC.slot⟩, ⟨a, fV.slot⟩] ∧ B₁.cells = A₁.cells + 1 ∧ B₁.slots = A₁.slots + A.slots.size) :=
  (law l a D fV fC b A z).pays htab hfr (by omega)
end New1
end StrChars
namespace StrChars.Road
open Jvm Sem ClassFile Op Lib Jvm.Stand Jvm.Free Jvm.Free.XT
open Jvm.Lib.Cold (StaticIs)
abbrev ST : String := "java/lang/String"
/-- every table word that New1's law asks, flat -/
abbrev words : List Jvm.Cond := [.code New1.yN New1.yB 2 none, .initialized ST, .methodLink ST 27 New4.yN, .instanceMethod New4.yN,
  .code New4.yN New4.yB 6 none, .fieldLink ST 38 ST "COMPACT_STRINGS" "Z", .laysFinal ST ST "value" "[B", .fieldLink ST 9 ST "value" "[B", .laysFinal ST ST "coder" "B", .fieldLink ST 15 ST "coder" "B",
  .methodLink ST 1 Lib.objectInit, .instanceMethod Lib.objectInit, .code Lib.objectInit ⟨#[0xb1]⟩ 1 none, .methodLink ST 177 Cmp3.yN, .static Cmp3.yN, .methodLink ST 47 CodL.yN, .static CodL.yN,
  .code Cmp3.yN Cmp3.yB 6 (some (.array .byte)), .initialized U16, .arrayClass .byte, .methodLink U16 115 Cmp5.yN, .static Cmp5.yN, .code Cmp5.yN Cmp5.yB 7 (some .int), .code CodL.yN CodL.yB 2 (some .byte)]
theorem tab_of {a : Array Value} {s : State} (h : ∀ w ∈ words, w.before a s = true) : New1.tab.before a s = true := by
  have h5 : Cmp5.tab.before a s = true := unparts (wk h (.code Cmp5.yN Cmp5.yB 7 (some .int))) (wks h (.initialized Cmp5.yN.cls :: Cmp5.site))
  have hc : CodL.tab.before a s = true := unparts (wk h (.code CodL.yN CodL.yB 2 (some .byte))) (wks h (.initialized CodL.yN.cls :: CodL.site))
  have q5 : ∀ w ∈ Cmp5.tab :: words, w.before a s = true := fun w hw => (List.mem_cons.mp hw).elim (fun e => e ▸ h5) (h w)
  have h3 : Cmp3.tab.before a s = true := unparts (wk q5 (.code Cmp3.yN Cmp3.yB 6 (some (.array .byte)))) (wks q5 (.initialized Cmp3.yN.cls :: Cmp3.site))
  have q3 : ∀ w ∈ Cmp3.tab :: CodL.tab :: words, w.before a s = true := fun w hw => (List.mem_cons.mp hw).elim (fun e => e ▸ h3) fun hw => (List.mem_cons.mp hw).elim (fun e => e ▸ hc) (h w)
  have h4 : New4.tab.before a s = true := unparts (wk q3 (.code New4.yN New4.yB 6 none)) (wks q3 (.initialized New4.yN.cls :: New4.site))
  have q4 : ∀ w ∈ New4.tab :: words, w.before a s = true := fun w hw => (List.mem_cons.mp hw).elim (fun e => e ▸ h4) (h w)
  exact unparts (wk q4 (.code New1.yN New1.yB 2 none)) (wks q4 (.initialized New1.yN.cls :: New1.site))
/-- the words ride from the start Z to the walk's own state -/
theorem moved {Z s : State} {a0 args : Array Value} (hZ : Z.Warmed39 s.vm) (hw : ∀ d ∈ words, d.before a0 Z = true) : ∀ d ∈ words, d.before args s = true := fun d hd => by
  have q := hw d hd
  have t : ∀ d ∈ words, d = .arrayClass .byte ∨ (d.onTables && d.keepsFace) = true := by decide +kernel
  rcases t d hd with rfl | t
  · exact RoadKit.mvA hZ q
  · exact RoadKit.mv hZ q t
/-- WHAT COMES BACK, over the tables of the start Z: h the heap at the call, h' behind it -/
def Q (Z : State) (x : Addr) (A : Cell) (h : Heap) (v : Option Value) (h' : Heap) (L : List Loc) : Prop := v = none ∧ (∀ y ∈ L, y.base = x) ∧ RoadKit.Keep h h' [x] ∧ h'.size = h.size + 1 ∧ RoadKit.Exa Z h' x ST ∧ RoadKit.Fld Z h' x ST "value" "[B" (.ref h.size) ∧ RoadKit.Fld Z h' x ST "coder" "B" (.int 0) ∧
  (∃ V : Cell, RoadKit.Arr Z h' h.size V .byte ∧ V.vm = .none ∧ Z.vm.findClass "[B" = some V.cls ∧ V.slots.size = A.slots.size ∧ ∀ j, j < A.slots.size → V.slots[j]? = some (.int (lo8 (cv A j)))) ∧
  ∀ (O n d : String) (w : Value), RoadKit.Fld Z h x O n d w → RoadKit.slotOf Z O n d ≠ RoadKit.slotOf Z ST "value" "[B" → RoadKit.slotOf Z O n d ≠ RoadKit.slotOf Z ST "coder" "B" → RoadKit.Fld Z h' x O n d w
/-- **new String(chars) AT A CALL, IN THE ROAD'S FORM**: for specialBack behind newO: x the fresh String, b the char[] with the cell A -/
theorem back {p : Program} {l : Launch} {e : Env} {R : Room} {s : State} {args : Array Value} {below : List Frame} {len W : Nat} {Z : State} {a0 : Array Value} {h : Heap} (hZ : Z.Warmed39 s.vm) (hw : ∀ d ∈ words, d.before a0 Z = true) {kI : Nat} (wi : (Jvm.Cond.instantiable ST kI).before a0 Z = true)
    {x b : Addr} {A : Cell} {z : Int32} {v0 c0 : Value} (E : RoadKit.Exa Z h x ST) (V : RoadKit.Fld Z h x ST "value" "[B" v0) (C : RoadKit.Fld Z h x ST "coder" "B" c0) (K : RoadKit.Arr Z h b A .char) (hty : Typed .char A) (S : RoadKit.Sta Z h ST "COMPACT_STRINGS" "Z" (.int z)) (hz : ¬ z = 0)
    (l0 : 0 < A.slots.size) (l2 : A.slots.size ≤ 536870912) (hp : ∀ i, i < A.slots.size → ¬ 255 < cv A i) (hfr : 4 ≤ R.frames) (hlo : W + 65 ≤ R.locals) :
    Back l R p e below s args New1.yN len W (fun P a => a = #[.ref x, .ref b] ∧ P.U.heap = h ∧ P.cells + 1 ≤ R.cells ∧ P.slots + A.slots.size ≤ R.slots)
      (fun P _ v B => ∃ L, Q Z x A h v B.U.heap L ∧ B.locs = P.locs ++ L ∧ B.cells = P.cells + 1 ∧ B.slots = P.slots + A.slots.size) := by
  intro m meth c P g ig mk a X hg hsize hdg hW hn hp'
  obtain ⟨rfl, rfl, r1, r2⟩ := hp'
  have al : Z.vm.Alike P.U.vm := hZ.alike.trans X.warmed.alike
  obtain ⟨D, cfV, kV, iV, fV, hD, gV, stV, knV, obV, asV, slV⟩ := id V
  obtain ⟨D', cfC, kC, iC, fC, hD', gC, stC, -, -, asC, slC⟩ := id C
  cases hD.symm.trans hD'
  obtain ⟨D2, kD, e1, e2, e3, e4, e5⟩ := id E
  cases hD.symm.trans e1
  obtain ⟨c2, k2, i1, i2, i3, -⟩ := Cond.instantiable_spec wi
  cases e2.symm.trans i1
  cases e3.symm.trans i2
  obtain ⟨kU, u1, u2⟩ := al.2.2 _ _ e3
  have hB : Blank ST x D P.U := ⟨hD, ⟨knV, fun q hq => by rw [hq] at obV; cases obV⟩, by rw [al.findClass]; exact e2, kU, u1, by rw [u2]; exact i3, by rw [u2]; exact e5 i3⟩
  have F1 : Found ST "value" "[B" fV P.U := ⟨SBG.found_only al ⟨cfV, kV, iV, gV⟩, stV⟩
  have F2 : Found ST "coder" "B" fC P.U := ⟨SBG.found_only al ⟨cfC, kC, iC, gC⟩, stC⟩
  have hA : Ch b A P.U := ⟨⟨K.1, State.isArrayOf_alike al K.2.1, K.2.2, by omega⟩, hty⟩
  have hS : StaticIs P.U ST "COMPACT_STRINGS" "Z" (.int z) := by
    obtain ⟨cfS, iS, kS, fS, st, cS, t1, t2, t3, t4, t5, t6, t7⟩ := S
    exact StaticIs.there (s := { Z with heap := P.U.heap }) ⟨cfS, iS, kS, fS, st, cS, t1, t2, t3, t4, t5, (fun q => by rw [q] at t6; cases t6), t7⟩ al rfl
  obtain ⟨v, B, X', ⟨⟨hv, E', V', q1, q2, q3, q4, q5, q6, q7, q8, q9, q10, q11⟩, hl, hc, hs⟩, st⟩ := New1.pays x D fV fC b A z (tab_of (moved hZ hw)) hfr hlo m meth c P g ig mk _ X hg hsize hdg hW hn ⟨r1, r2, rfl, hB, F1, F2, hA, hS, hz, l0, l2, hp⟩
  have al' : Z.vm.Alike B.U.vm := hZ.alike.trans X'.warmed.alike
  have hsz : E'.slots.size = D.slots.size := by
    obtain ⟨-, -, -, kB, w1, w2, w3⟩ := q1
    obtain ⟨kB', y1, y2⟩ := al'.2.2 _ _ e3
    rw [q2.2.1] at w1
    cases w1.symm.trans y1
    rw [w3, e5 i3, y2]
  refine ⟨v, B, X', ⟨_, ⟨hv, ?_, ⟨by omega, fun y cy hy hn' => q10 y cy (by simpa using hn') hy, fun y cy hy => ?_⟩, q11, ⟨E', _, q1.1, by rw [q2.2.1]; exact e2, by rw [q2.2.1]; exact e3, by rw [q2.1]; exact obV, fun _ => by rw [hsz]; exact e5 i3⟩,
    ⟨E', cfV, kV, iV, fV, q1.1, gV, stV, by rw [q2.1]; exact knV, by rw [q2.1]; exact obV, by rw [q2.2.1]; exact asV, q3⟩, ⟨E', cfC, kC, iC, fC, q1.1, gC, stC, by rw [q2.1]; exact knV, by rw [q2.1]; exact obV, by rw [q2.2.1]; exact asC, q4⟩,
    ⟨V', ⟨q5.1, State.isArrayOf_alike al'.symm q5.2.1, q5.2.2.1⟩, q6, by rw [← al'.findClass]; exact q7, q8, fun j hj => by have := q9 j hj; rwa [Nat.zero_add] at this⟩, fun O n d w F n1 n2 => ?_⟩, hl, hc, hs⟩, st⟩
  · intro y hy
    simp only [List.mem_cons, List.not_mem_nil, or_false] at hy
    rcases hy with rfl | rfl <;> rfl
  · by_cases q : y = x
    · subst q
      cases hD.symm.trans hy
      exact ⟨E', q1.1, q2.2.1, q2.1, hsz⟩
    · exact ⟨cy, q10 y cy q hy, rfl, rfl, rfl⟩
  · obtain ⟨D3, cf, k, i, f, g1, g2, g3, g4, g5, g6, g7⟩ := F
    cases hD.symm.trans g1
    simp only [RoadKit.slotOf, g2, gV, gC, Option.map_some, Option.getD_some] at n1 n2
    exact ⟨E', cf, k, i, f, q1.1, g2, g3, by rw [q2.1]; exact g4, by rw [q2.1]; exact g5, by rw [q2.2.1]; exact g6, by rw [q2.2.2 f.slot (by simp [n1, n2])]; exact g7⟩
end StrChars.Road
namespace StrChars.Road
open Jvm Sem ClassFile Op Lib Jvm.Stand Jvm.Free Jvm.Free.XT
/-- WHAT COMES BACK, the byte[] as a list of values -/
def QA (Z : State) (x : Addr) (zn : Int32) (cs : List Int32) (h : Heap) (v : Option Value) (h' : Heap) (L : List Loc) : Prop := v = none ∧ (∀ y ∈ L, y.base = x) ∧ RoadKit.Keep h h' [x] ∧ h'.size = h.size + 1 ∧ RoadKit.Exa Z h' x ST ∧ RoadKit.Fld Z h' x ST "value" "[B" (.ref h.size) ∧ RoadKit.Fld Z h' x ST "coder" "B" (.int 0) ∧
  (∃ kb, Z.vm.findClass "[B" = some kb ∧ RoadKit.Arv Z h' h.size kb .byte zn (cs.map fun c => .int (lo8 c)) (.int 0)) ∧
  ∀ (O n d : String) (w : Value), RoadKit.Fld Z h x O n d w → RoadKit.slotOf Z O n d ≠ RoadKit.slotOf Z ST "value" "[B" → RoadKit.slotOf Z O n d ≠ RoadKit.slotOf Z ST "coder" "B" → RoadKit.Fld Z h' x O n d w
/-- **new String(chars) AT A CALL, THE ARRAYS AS LISTS**: the char[] at b holds cs, not empty, no char above 255 -/
theorem backArv {p : Program} {l : Launch} {e : Env} {R : Room} {s : State} {args : Array Value} {below : List Frame} {len W : Nat} {Z : State} {a0 : Array Value} {h : Heap} (hZ : Z.Warmed39 s.vm) (hw : ∀ d ∈ words, d.before a0 Z = true) {kI : Nat} (wi : (Jvm.Cond.instantiable ST kI).before a0 Z = true)
    {x b : Addr} {k : ClassId} {zn z : Int32} {cs : List Int32} {dv v0 c0 : Value} (E : RoadKit.Exa Z h x ST) (V : RoadKit.Fld Z h x ST "value" "[B" v0) (C : RoadKit.Fld Z h x ST "coder" "B" c0) (K : RoadKit.Arv Z h b k .char zn (cs.map Value.int) dv) (S : RoadKit.Sta Z h ST "COMPACT_STRINGS" "Z" (.int z)) (hz : ¬ z = 0)
    (hlen : zn.toNatClampNeg = cs.length) (h0 : 0 < cs.length) (hbig : cs.length ≤ 536870912) (hall : ∀ c ∈ cs, ¬ 255 < c) (hfr : 4 ≤ R.frames) (hlo : W + 65 ≤ R.locals) :
    Back l R p e below s args New1.yN len W (fun P a => a = #[.ref x, .ref b] ∧ P.U.heap = h ∧ P.cells + 1 ≤ R.cells ∧ P.slots + cs.length ≤ R.slots)
      (fun P _ v B => ∃ L, QA Z x zn cs h v B.U.heap L ∧ B.locs = P.locs ++ L ∧ B.cells = P.cells + 1 ∧ B.slots = P.slots + cs.length) := by
  obtain ⟨A, K1, K2, K3, K4, K5, K6⟩ := K
  have e : A.slots.size = cs.length := K3.trans hlen
  have hat : ∀ (i : Nat) (hi : i < cs.length), A.slots[i]? = some (.int cs[i]) := fun i hi => by rw [K5 i (by omega)]; simp [List.getD_eq_getElem?_getD, hi]
  have hcv : ∀ (i : Nat) (hi : i < cs.length), cv A i = cs[i] := fun i hi => by unfold cv; rw [hat i hi]
  have hty : Typed .char A := fun i v hv => by
    have hi : i < A.slots.size := (Array.getElem?_eq_some_iff.mp hv).1
    have q := K5 i hi
    rw [hv] at q
    rw [Option.some.inj q]
    exact K6 i hi
  refine Back.mono (back hZ hw wi E V C K1 hty S hz (by omega) (by omega) (fun i hi => by rw [hcv i (by omega)]; exact hall _ (List.getElem_mem _)) hfr hlo) (fun P a hp => ⟨hp.1, hp.2.1, hp.2.2.1, by rw [e]; exact hp.2.2.2⟩) (fun P a v B hp hq => ?_)
  obtain ⟨L, ⟨q1, q2, q3, q4, q5, q6, q7, ⟨V', v1, v2, v3, v4, v5⟩, q9⟩, hl, hc, hs⟩ := hq
  refine ⟨L, ⟨q1, q2, q3, q4, q5, q6, q7, ⟨V'.cls, v3, V', v1, rfl, by rw [v4, e, hlen], K4, fun i hi => ?_, fun i hi => ?_⟩, q9⟩, hl, hc, by rw [hs, e]⟩
  · have hi' : i < cs.length := by omega
    rw [v5 i (by omega), hcv i hi']; simp [List.getD_eq_getElem?_getD, hi']
  · have hi' : i < cs.length := by omega
    simp only [List.getD_eq_getElem?_getD, List.getElem?_map, List.getElem?_eq_getElem hi', Option.map_some, Option.getD_some]
    exact fits_lo8 _
end StrChars.Road
namespace StrChars.Road
open Jvm Sem ClassFile Op Lib Jvm.Stand Jvm.Free Jvm.Free.XT
/-- WHAT COMES BACK, in the writer's own shape -/
def QV (Z : State) (x : Addr) (N : Int32) (bs : List Int32) (h : Heap) (n0 : Nat) (v : Option Value) (h' : Heap) (L : List Loc) : Prop := v = none ∧ RoadKit.Fr n0 L ∧ RoadKit.Keep h h' [x] ∧ RoadKit.Exa Z h' x ST ∧ RoadKit.Fld Z h' x ST "coder" "B" (.int 0) ∧
  ∃ (t : Addr) (kb : ClassId), n0 ≤ t ∧ h.size ≤ t ∧ ¬ t = x ∧ RoadKit.Fld Z h' x ST "value" "[B" (.ref t) ∧ RoadKit.Arv Z h' t kb .byte N (bs.map Value.int) (.int 0)
/-- **new String(chars) AT A CALL, FOR THE WRITER**: a char[] of n known ints, each 0 to 255 -/
theorem backV {p : Program} {l : Launch} {e : Env} {R : Room} {s : State} {args : Array Value} {below : List Frame} {len W : Nat} {Z : State} {a0 : Array Value} {h : Heap} (hZ : Z.Warmed39 s.vm) (hw : ∀ d ∈ words, d.before a0 Z = true) {kI : Nat} (wi : (Jvm.Cond.instantiable ST kI).before a0 Z = true)
    {x b : Addr} {kC : ClassId} {cs bs : List Int32} {d v0 c0 : Value} {z N : Int32} {n n0 : Nat} (hx0 : n0 ≤ x) (hh0 : n0 ≤ h.size) (E : RoadKit.Exa Z h x ST) (V : RoadKit.Fld Z h x ST "value" "[B" v0) (C : RoadKit.Fld Z h x ST "coder" "B" c0) (K : RoadKit.Arv Z h b kC .char N (cs.map Value.int) d) (S : RoadKit.Sta Z h ST "COMPACT_STRINGS" "Z" (.int z)) (hz : ¬ z = 0)
    (hn : cs.length = n) (hN : N = Int32.ofNat n) (l0 : 0 < n) (l2 : n ≤ 4000) (hp : ∀ c ∈ cs, ¬ c < 0 ∧ ¬ (255 : Int32) < c) (hb : bs = cs.map (fun c => c.toInt8.toInt32)) (hfr : 4 ≤ R.frames) (hlo : W + 65 ≤ R.locals) :
    Back l R p e below s args (⟨"java/lang/String", "<init>", "([C)V"⟩ : MethodName) len W (fun P a => a = #[.ref x, .ref b] ∧ P.U.heap = h ∧ P.cells + 1 ≤ R.cells ∧ P.slots + n ≤ R.slots)
      (fun P _ v B => ∃ L, QV Z x N bs h n0 v B.U.heap L ∧ B.locs = P.locs ++ L ∧ B.cells = P.cells + 1 ∧ B.slots = P.slots + n) := by
  subst hn hN hb
  refine Back.mono (backArv hZ hw wi E V C K S hz (n32 (by omega)) l0 (by omega) (fun c hc => (hp c hc).2) hfr hlo) (fun P a hp => hp) (fun P a v B hp hq => ?_)
  obtain ⟨L, ⟨q1, q2, q3, q4, q5, q6, q7, ⟨kb, v1, v2⟩, q9⟩, hl, hc, hs⟩ := hq
  exact ⟨L, ⟨q1, fun y hy => by rw [q2 y hy]; exact hx0, q3, q5, q7, h.size, kb, hh0, Nat.le_refl _, Nat.ne_of_gt E.lt, q6, by rw [List.map_map]; exact v2⟩, hl, hc, hs⟩
end StrChars.Road
end Jvm.Pilot.@@N@@
namespace Jvm.Pilot.@@N@@
open Jvm Jvm.ClassFile Sem Op Lib Jvm.Free Jvm.Stand Jvm.LawKit Jvm.RoadKit Bundle Jvm.Pilot.@@N@@.Jvm.D
section OwnKit
variable {p : Program} {l : Launch} {e : Env} {R : Room} {s : State} {m : MethodId} {args : Array Value} {below : List Frame} {meth : Method} {c : Code} {T : State} {locs : List Loc} {cells slots : Nat} {Z : State} {a0 : Array Value} {h : Heap} {Q : Option Value → Heap → List Loc → Prop} {rc rs : Nat} {S S' : State}
/-- from S the body ends well -/
def own_go (p : Program) (e : Env) (below : List Frame) (s : State) (Q : Option Value → Heap → List Loc → Prop) (rc rs : Nat) (S : State) : Prop :=
  ∃ s₂ o, Steps p.tables e below S s₂ ∧ s₂.status = .running ∧ Ended s₂ below o ∧ ∃ v L, o = .returned v ∧ Q v s₂.heap L ∧ FrameEnd s o s₂ L rc rs
theorem own_st (k : ∀ t, Steps p.tables e below S' t → Steps p.tables e below S t) (g : own_go p e below s Q rc rs S') : own_go p e below s Q rc rs S := by
  obtain ⟨s₂, o, h1, h2⟩ := g
  exact ⟨s₂, o, k _ h1, h2⟩
theorem own_ret (X : Stand p l e R s m args below meth c T locs cells slots) (hx : p.tables.exec = Jvm.exec) (hlk : meth.locks = false) {pc : Nat} {Ls : Array Slot} {w : Value} {t : FieldType} {i : Instr} {rest : List Value} (hret : meth.sig.returnType = some t) (hn : narrow t w = w)
    (hi : (i = .ireturn ∧ (t = .int ∨ t = .boolean ∨ t = .byte ∨ t = .char ∨ t = .short) ∧ ∃ z, w = .int z) ∨ (i = .lreturn ∧ t = .long ∧ ∃ z, w = .long z) ∨ (i = .dreturn ∧ t = .double ∧ ∃ z, w = .double z) ∨ (i = .freturn ∧ t = .float ∧ ∃ z, w = .float z) ∨ (i = .areturn ∧ t.isReference = true ∧ w.isRef = true))
    (hd : decode c.code pc = .ok (i, 1)) (hc : cells ≤ rc) (hs : slots ≤ rs) (hQ : Q (some w) T.heap locs) : own_go p e below s Q rc rs (T.setTop (mkF m pc Ls (w :: rest))) := by
  obtain ⟨fs, hr, hrun, hended, hW, hsame⟩ := X.leave (v := some w) (fun h => by rw [hret] at h; cases h) hlk
  exact ⟨_, _, retOut X hx hret hn hi hd hr, hrun, hended, _, _, rfl, hQ, ⟨_, rfl⟩, hW, hsame.mono hc hs⟩
theorem own_retI (X : Stand p l e R s m args below meth c T locs cells slots) (hx : p.tables.exec = Jvm.exec) (hlk : meth.locks = false) {pc : Nat} {Ls : Array Slot} {z : Int32} {rest : List Value} (hret : meth.sig.returnType = some .int)
    (hd : decode c.code pc = .ok (.ireturn, 1)) (hc : cells ≤ rc) (hs : slots ≤ rs) (hQ : Q (some (.int z)) T.heap locs) : own_go p e below s Q rc rs (T.setTop (mkF m pc Ls (.int z :: rest))) :=
  own_ret X hx hlk hret rfl (Or.inl ⟨rfl, Or.inl rfl, z, rfl⟩) hd hc hs hQ
theorem own_retN (X : Stand p l e R s m args below meth c T locs cells slots) (hx : p.tables.exec = Jvm.exec) (hlk : meth.locks = false) {pc : Nat} {Ls : Array Slot} {z : Int32} {t : FieldType} {rest : List Value} (hret : meth.sig.returnType = some t) (ht : t = .boolean ∨ t = .byte ∨ t = .char ∨ t = .short) (hn : narrow t (.int z) = .int z)
    (hd : decode c.code pc = .ok (.ireturn, 1)) (hc : cells ≤ rc) (hs : slots ≤ rs) (hQ : Q (some (.int z)) T.heap locs) : own_go p e below s Q rc rs (T.setTop (mkF m pc Ls (.int z :: rest))) :=
  own_ret X hx hlk hret hn (Or.inl ⟨rfl, Or.inr ht, z, rfl⟩) hd hc hs hQ
theorem own_retJ (X : Stand p l e R s m args below meth c T locs cells slots) (hx : p.tables.exec = Jvm.exec) (hlk : meth.locks = false) {pc : Nat} {Ls : Array Slot} {z : Int64} {rest : List Value} (hret : meth.sig.returnType = some .long)
    (hd : decode c.code pc = .ok (.lreturn, 1)) (hc : cells ≤ rc) (hs : slots ≤ rs) (hQ : Q (some (.long z)) T.heap locs) : own_go p e below s Q rc rs (T.setTop (mkF m pc Ls (.long z :: rest))) :=
  own_ret X hx hlk hret rfl (Or.inr (Or.inl ⟨rfl, rfl, z, rfl⟩)) hd hc hs hQ
theorem own_retA (X : Stand p l e R s m args below meth c T locs cells slots) (hx : p.tables.exec = Jvm.exec) (hlk : meth.locks = false) {pc : Nat} {Ls : Array Slot} {w : Value} {t : FieldType} {rest : List Value} (hret : meth.sig.returnType = some t) (ht : t.isReference = true) (hw : w.isRef = true)
    (hd : decode c.code pc = .ok (.areturn, 1)) (hc : cells ≤ rc) (hs : slots ≤ rs) (hQ : Q (some w) T.heap locs) : own_go p e below s Q rc rs (T.setTop (mkF m pc Ls (w :: rest))) :=
  own_ret X hx hlk hret (by cases w <;> cases t <;> first | rfl | (simp [Value.isRef] at hw; done) | (simp [FieldType.isReference] at ht; done)) (Or.inr (Or.inr (Or.inr (Or.inr ⟨rfl, ht, hw⟩)))) hd hc hs hQ
theorem own_ret0 (X : Stand p l e R s m args below meth c T locs cells slots) (hx : p.tables.exec = Jvm.exec) (hlk : meth.locks = false) {pc : Nat} {Ls : Array Slot} (hret : meth.sig.returnType = none)
    (hd : decode c.code pc = .ok (.return_, 1)) (hc : cells ≤ rc) (hs : slots ≤ rs) (hQ : Q none T.heap locs) : own_go p e below s Q rc rs (T.setTop (mkF m pc Ls [])) := by
  obtain ⟨fs, hr, hrun, hended, hW, hsame⟩ := X.leave (v := none) (fun _ => rfl) hlk
  exact ⟨_, _, X.returnOut hx hret hd hr, hrun, hended, _, _, rfl, hQ, ⟨_, rfl⟩, hW, hsame.mono hc hs⟩
/-- a body's contract at a heap -/
def own_Met (l : Launch) (Z : State) (y : MethodName) (bytes : ByteArray) (maxL : Nat) (ret : Option FieldType) (ws : List Jvm.Cond) (rm : Room) (as' : Array Value) (h : Heap) (Q : Option Value → Heap → List Loc → Prop) : Prop :=
  MetFree l y (head1 (Jvm.Cond.code y bytes maxL ret :: ws) rm) (fun a U => a = as' ∧ Z.Warmed39 U.vm ∧ U.heap = h) (fun _ _ _ _ _ => True) (fun _ U o U' => ∃ v L, o = .returned v ∧ Q v U'.heap L ∧ FrameEnd U o U' L rm.cells rm.slots)
theorem own_body {y : MethodName} {bytes : ByteArray} {maxL : Nat} {ret : Option FieldType} {ws : List Jvm.Cond} {rm : Room} {as' : Array Value} (hp : plainFor y = true)
    (k : ∀ (p : Program) (e : Env) (s : State) (m : MethodId) (below : List Frame) (meth : Method) (c : Code) (s₁ : State), p.tables.exec = Jvm.exec → c.code = bytes → c.maxLocals = maxL → s.vm.findClass y.cls = some m.cls → meth.name = y.name → meth.sig.returnType = ret → meth.locks = false → Stand p l e rm s m as' below meth c s₁ [] 0 0 → Z.Warmed39 s.vm → s₁.heap = h → own_go p e below s Q rm.cells rm.slots (s₁.setTop (entryFrame m as' maxL))) :
    own_Met l Z y bytes maxL ret ws rm as' h Q := by
  refine MetFree.of_bodySF hp hisR ?_
  intro p e s m args below meth c s₁ Bd hml0 hP hK
  obtain ⟨rfl, hZ, hh⟩ := hP
  exact k p e s m below meth c s₁ Bd.exec Bd.bytes hml0 (findClass_of_methodNamed Bd.named) (name_of_methodNamed Bd.named Bd.method).1 Bd.returns Bd.notSynchronized (Stand.of_body Bd) hZ (by rw [← hh, Bd.state]; rfl)
theorem own_callS (X : Stand p l e R s m args below meth c T locs cells slots) (hx : p.tables.exec = Jvm.exec) (hZ : Z.Warmed39 s.vm) {own : String} {index : Nat} {y : MethodName} {bytes : ByteArray} {maxL : Nat} {ret : Option FieldType} {rm : Room} {argsL rest : List Value} {Q' : Option Value → Heap → List Loc → Prop}
    (hM : own_Met l Z y bytes maxL ret [] rm argsL.toArray h Q') (hown : s.vm.findClass own = some m.cls) (w1 : (Jvm.Cond.methodLink own index y).before a0 Z = true) (w2 : (Jvm.Cond.static y).before a0 Z = true) (w3 : (Jvm.Cond.initialized y.cls).before a0 Z = true) (w4 : (Jvm.Cond.code y bytes maxL ret).before a0 Z = true)
    (hy : y.cls ≠ "java/lang/invoke/MethodHandle" ∧ y.cls ≠ "java/lang/invoke/VarHandle") (eT : T.heap = h) {g : JFrame} (hg : g.method = m) (hsize : g.locals.size = c.maxLocals) (hlen : ∀ sig, parseMethodDescriptor y.desc = some sig → argsL.length = sig.parameters.length) (hstack : g.stack = argsL.reverse ++ rest) {W : Nat} (hW : 2 * g.monitorRoom + (rest.map fun v => v.category).sum ≤ W)
    (hd : decode c.code g.pc = .ok (.invokestatic index, 3)) (hf : rm.frames + 1 ≤ R.frames) (hl : W + (maxL + 11) + rm.locals ≤ R.locals) (hc : cells + rm.cells ≤ R.cells) (hs : slots + rm.slots ≤ R.slots) :
    ∃ v T' L, Stand p l e R s m args below meth c T' (locs ++ L) (cells + rm.cells) (slots + rm.slots) ∧ Q' v T'.heap L ∧ ∀ target, Steps p.tables e below (T'.setTop { g with pc := g.pc + 3, stack := v.toList ++ rest }) target → Steps p.tables e below (T.setTop g) target := by
  obtain ⟨v, _, ⟨T1, L1, k1, n1⟩, -, X1, ⟨Lc, hQ, l1, y1, z1⟩, st⟩ := Jvm.LawKit.callS X hx (y := y) hown (mvT hZ w1) (mvT hZ w2) (mvT hZ w3) (mvT hZ w4) hy (backOf (W := W) hM hZ w4 w3 hf hl) hg hsize hlen hstack hW hd (fun _ _ => ⟨rfl, eT, hc, hs⟩)
  dsimp only [Pt.U, Pt.locs, Pt.cells, Pt.slots] at X1 l1 y1 z1 st hQ
  subst l1 y1 z1
  exact ⟨v, T1, Lc, X1, hQ, st⟩
theorem own_callV (X : Stand p l e R s m args below meth c T locs cells slots) (hx : p.tables.exec = Jvm.exec) (hZ : Z.Warmed39 s.vm) {own C : String} {index : Nat} {y z : MethodName} {bytes : ByteArray} {maxL : Nat} {ret : Option FieldType} {rm : Room} {b : Addr} {argsL rest : List Value} {Q' : Option Value → Heap → List Loc → Prop}
    (hM : own_Met l Z z bytes maxL ret [] rm (.ref b :: argsL).toArray h Q') (hown : s.vm.findClass own = some m.cls) (w1 : (Jvm.Cond.methodLink own index y).before a0 Z = true) (w2 : (Jvm.Cond.declares y).before a0 Z = true) (nf : NotFace s y) (w3 : (Jvm.Cond.selects C y z).before a0 Z = true) (w5 : (Jvm.Cond.instanceMethod z).before a0 Z = true)
    (w6 : (Jvm.Cond.initialized z.cls).before a0 Z = true) (w4 : (Jvm.Cond.code z bytes maxL ret).before a0 Z = true)
    (hy : y.cls ≠ "java/lang/invoke/MethodHandle" ∧ y.cls ≠ "java/lang/invoke/VarHandle") (eT : T.heap = h) (E : Exa Z h b C) {g : JFrame} (hg : g.method = m) (hsize : g.locals.size = c.maxLocals) (hlen : ∀ sig, parseMethodDescriptor y.desc = some sig → argsL.length = sig.parameters.length) (hstack : g.stack = argsL.reverse ++ .ref b :: rest) {W : Nat} (hW : 2 * g.monitorRoom + (rest.map fun v => v.category).sum ≤ W)
    (hd : decode c.code g.pc = .ok (.invokevirtual index, 3)) (hf : rm.frames + 1 ≤ R.frames) (hl : W + (maxL + 11) + rm.locals ≤ R.locals) (hc : cells + rm.cells ≤ R.cells) (hs : slots + rm.slots ≤ R.slots) :
    ∃ v T' L, Stand p l e R s m args below meth c T' (locs ++ L) (cells + rm.cells) (slots + rm.slots) ∧ Q' v T'.heap L ∧ ∀ target, Steps p.tables e below (T'.setTop { g with pc := g.pc + 3, stack := v.toList ++ rest }) target → Steps p.tables e below (T.setTop g) target := by
  obtain ⟨cq, kq, qa, qb, qc⟩ := isOf hZ eT E
  obtain ⟨v, _, ⟨T1, L1, k1, n1⟩, -, X1, ⟨Lc, hQ, l1, y1, z1⟩, st⟩ := X.virtualBack hx (y := y) (z := z) hown (mvT hZ w1) (mvT hZ w2) nf (mvT hZ w3) (mvT hZ w5) hy (backOf (W := W) hM hZ w4 w6 hf hl) qa qc hg hsize (Steps.refl _) hlen hstack hW hd (fun _ _ => ⟨rfl, eT, hc, hs⟩)
  dsimp only [Pt.U, Pt.locs, Pt.cells, Pt.slots] at X1 l1 y1 z1 st hQ
  subst l1 y1 z1
  exact ⟨v, T1, Lc, X1, hQ, fun _ k => st.trans k⟩
theorem own_callU (X : Stand p l e R s m args below meth c T locs cells slots) (hx : p.tables.exec = Jvm.exec) (hZ : Z.Warmed39 s.vm) {own C owner : String} {index : Nat} {y z : MethodName} {bytes : ByteArray} {maxL : Nat} {ret : Option FieldType} {rm : Room} {b : Addr} {argsL rest : List Value} {Q' : Option Value → Heap → List Loc → Prop}
    (hM : own_Met l Z z bytes maxL ret [] rm (.ref b :: argsL).toArray h Q') (hown : s.vm.findClass own = some m.cls) (w1 : (Jvm.Cond.methodLink own index y).before a0 Z = true) (w2 : (Jvm.Cond.sameMethod y.cls owner y.name y.desc).before a0 Z = true) (w7 : (Jvm.Cond.declares ⟨owner, y.name, y.desc⟩).before a0 Z = true) (w3 : (Jvm.Cond.selects C y z).before a0 Z = true) (w5 : (Jvm.Cond.instanceMethod z).before a0 Z = true)
    (w6 : (Jvm.Cond.initialized z.cls).before a0 Z = true) (w4 : (Jvm.Cond.code z bytes maxL ret).before a0 Z = true)
    (hy : owner ≠ "java/lang/invoke/MethodHandle" ∧ owner ≠ "java/lang/invoke/VarHandle") (eT : T.heap = h) (E : Exa Z h b C) {g : JFrame} (hg : g.method = m) (hsize : g.locals.size = c.maxLocals) (hlen : ∀ sig, parseMethodDescriptor y.desc = some sig → argsL.length = sig.parameters.length) (hstack : g.stack = argsL.reverse ++ .ref b :: rest) {W : Nat} (hW : 2 * g.monitorRoom + (rest.map fun v => v.category).sum ≤ W)
    (hd : decode c.code g.pc = .ok (.invokevirtual index, 3)) (hf : rm.frames + 1 ≤ R.frames) (hl : W + (maxL + 11) + rm.locals ≤ R.locals) (hc : cells + rm.cells ≤ R.cells) (hs : slots + rm.slots ≤ R.slots) :
    ∃ v T' L, Stand p l e R s m args below meth c T' (locs ++ L) (cells + rm.cells) (slots + rm.slots) ∧ Q' v T'.heap L ∧ ∀ target, Steps p.tables e below (T'.setTop { g with pc := g.pc + 3, stack := v.toList ++ rest }) target → Steps p.tables e below (T.setTop g) target := by
  obtain ⟨cq, kq, qa, qb, qc⟩ := isOf hZ eT E
  obtain ⟨v, _, ⟨T1, L1, k1, n1⟩, -, X1, ⟨Lc, hQ, l1, y1, z1⟩, st⟩ := X.virtualBackUp hx (x := y) (y := z) hown (mvT hZ w1) (mvT hZ w2) (mvT hZ w7) hy (mvT hZ w3) (mvT hZ w5) (backOf (W := W) hM hZ w4 w6 hf hl) qa qc hg hsize (Steps.refl _) hlen hstack hW hd (fun _ _ => ⟨rfl, eT, hc, hs⟩)
  dsimp only [Pt.U, Pt.locs, Pt.cells, Pt.slots] at X1 l1 y1 z1 st hQ
  subst l1 y1 z1
  exact ⟨v, T1, Lc, X1, hQ, fun _ k => st.trans k⟩
theorem own_callN (X : Stand p l e R s m args below meth c T locs cells slots) (hx : p.tables.exec = Jvm.exec) (hZ : Z.Warmed39 s.vm) {own : String} {index : Nat} {y : MethodName} {bytes : ByteArray} {maxL : Nat} {rm : Room} {b : Addr} {argsL rest : List Value} {Q' : Option Value → Heap → List Loc → Prop}
    (hM : own_Met l Z y bytes maxL none [] rm (.ref b :: argsL).toArray h Q') (hi : y.name = "<init>") (hown : s.vm.findClass own = some m.cls) (w1 : (Jvm.Cond.methodLink own index y).before a0 Z = true) (w2 : (Jvm.Cond.instanceMethod y).before a0 Z = true)
    (w3 : (Jvm.Cond.initialized y.cls).before a0 Z = true) (w4 : (Jvm.Cond.code y bytes maxL none).before a0 Z = true)
    (hy : y.cls ≠ "java/lang/invoke/MethodHandle" ∧ y.cls ≠ "java/lang/invoke/VarHandle") (eT : T.heap = h) {g : JFrame} (hg : g.method = m) (hsize : g.locals.size = c.maxLocals) (hlen : ∀ sig, parseMethodDescriptor y.desc = some sig → argsL.length = sig.parameters.length) (hstack : g.stack = argsL.reverse ++ .ref b :: rest) {W : Nat} (hW : 2 * g.monitorRoom + (rest.map fun v => v.category).sum ≤ W)
    (hd : decode c.code g.pc = .ok (.invokespecial index, 3)) (hf : rm.frames + 1 ≤ R.frames) (hl : W + (maxL + 11) + rm.locals ≤ R.locals) (hc : cells + rm.cells ≤ R.cells) (hs : slots + rm.slots ≤ R.slots) :
    ∃ v T' L, Stand p l e R s m args below meth c T' (locs ++ L) (cells + rm.cells) (slots + rm.slots) ∧ Q' v T'.heap L ∧ ∀ target, Steps p.tables e below (T'.setTop { g with pc := g.pc + 3, stack := v.toList ++ rest }) target → Steps p.tables e below (T.setTop g) target := by
  obtain ⟨v, _, ⟨T1, L1, k1, n1⟩, -, X1, ⟨Lc, hQ, l1, y1, z1⟩, st⟩ := X.specialBack hx (y := y) hi hown (mvT hZ w1) (mvT hZ w2) (mvT hZ w4) hy (backOf (W := W) hM hZ w4 w3 hf hl) hg hsize (Steps.refl _) hlen hstack hW hd (fun _ _ => ⟨rfl, eT, hc, hs⟩)
  dsimp only [Pt.U, Pt.locs, Pt.cells, Pt.slots] at X1 l1 y1 z1 st hQ
  subst l1 y1 z1
  exact ⟨v, T1, Lc, X1, hQ, fun _ k => st.trans k⟩
/-- a reference laid into an array that the walk has made -/
theorem own_put (X : Stand p l e R s m args below meth c T locs cells slots) (hx : p.tables.exec = Jvm.exec) (hZ : Z.Warmed39 s.vm) (eT : T.heap = h) {a : Addr} {k : ClassId} {C : String} {z : Int32} {vs : List Value} {dv : Value} (V : Arv Z h a k (.object C) z vs dv) (O : Ovr Z k C) {y : Addr} (I : Ins Z h y C true) {j : Int32} (hj : ¬ j < 0 ∧ j < z) (i : Nat) (hi : j.toNatClampNeg = i) (hl : i < vs.length)
    {g : JFrame} (hg : g.method = m) {rest : List Value} (hs : g.stack = .ref y :: .int j :: .ref a :: rest) (hd : decode c.code g.pc = .ok (.aastore, 1)) :
    ∃ T' h', Stand p l e R s m args below meth c T' (locs ++ [⟨a, j.toNatClampNeg⟩]) cells slots ∧ T'.heap = h' ∧ Wr h h' a j.toNatClampNeg (.ref y) ∧ Arv Z h' a k (.object C) z (vs.set i (.ref y)) dv ∧ ∀ target, Steps p.tables e below (T'.setTop { g with pc := g.pc + 1, stack := rest }) target → Steps p.tables e below (T.setTop g) target := by
  obtain ⟨cl, A, q1, S, q3, H, G⟩ := V
  obtain ⟨T', h', X', e', W, st⟩ := stR X hx hZ eT A (j := j) (inb_of S hj) rfl (Sto.ofV A q1 O I) hg hs hd
  exact ⟨T', h', X', e', W, Arv.set A q1 S q3 H G rfl W i hi hl, st⟩
theorem own_get (X : Stand p l e R s m args below meth c T locs cells slots) (hx : p.tables.exec = Jvm.exec) (hZ : Z.Warmed39 s.vm) (eT : T.heap = h) {a : Addr} {k : ClassId} {ty : FieldType} {z : Int32} {vs : List Value} {dv : Value} (V : Arv Z h a k ty z vs dv) (hty : ty.isReference = true) {j : Int32} (hj : ¬ j < 0 ∧ j < z) {v : Value} (hv : vs.getD j.toNatClampNeg dv = v)
    {g : JFrame} (hg : g.method = m) {rest : List Value} (hs : g.stack = .int j :: .ref a :: rest) (hd : decode c.code g.pc = .ok (.aaload, 1)) :
    ∀ target, Steps p.tables e below (T.setTop { g with pc := g.pc + 1, stack := v :: rest }) target → Steps p.tables e below (T.setTop g) target := by
  obtain ⟨cl, A, q1, S, q3, H, G⟩ := V
  intro target k
  exact X.aaload hx (by rw [eT]; exact A.1) (State.isArrayOf_alike hZ.alike A.2.1) hty A.2.2 (inb_of S hj) (H.at (inb_of S hj) hv) hg hs hd target k
/-- an array of references of a written length, made -/
theorem own_arr (X : Stand p l e R s m args below meth c T locs cells slots) (hx : p.tables.exec = Jvm.exec) (hZ : Z.Warmed39 s.vm) {own C : String} {index : Nat} (hown : s.vm.findClass own = some m.cls) (w1 : (Jvm.Cond.classLink own index C).before a0 Z = true) (w2 : (Jvm.Cond.arrayOver (.object C)).before a0 Z = true) (eT : T.heap = h)
    {g : JFrame} (hg : g.method = m) (hd : decode c.code g.pc = .ok (.anewarray index, 3)) {n : Int32} {rest : List Value} (hs : g.stack = .int n :: rest) (hn : ¬ n < 0) {cap : Nat} (hcap : n.toNatClampNeg ≤ cap) (hb : cap * 8 ≤ 536870912) (hc : cells + 1 ≤ R.cells) (hl : slots + cap ≤ R.slots) :
    ∃ T' h' k a, Stand p l e R s m args below meth c T' locs (cells + 1) (slots + cap) ∧ T'.heap = h' ∧ a = h.size ∧ Ext h h' ∧ Arv Z h' a k (.object C) n (List.replicate cap .null) .null ∧ Ovr Z k C ∧
      ∀ target, Steps p.tables e below (T'.setTop { g with pc := g.pc + 3, stack := .ref a :: rest }) target → Steps p.tables e below (T.setTop g) target := by
  obtain ⟨T', h', k, X', e', E, A, O, st⟩ := newR X hx hZ hown w1 w2 eT hg hd hs hn hcap hb hc hl
  exact ⟨T', h', k, _, X', e', rfl, E, (Arv.new A hn).pad (pad_rep [] .null cap), O, st⟩
theorem own_len (X : Stand p l e R s m args below meth c T locs cells slots) (hx : p.tables.exec = Jvm.exec) (hZ : Z.Warmed39 s.vm) (eT : T.heap = h) {a : Addr} {k : ClassId} {ty : FieldType} {z : Int32} {vs : List Value} {dv : Value} (V : Arv Z h a k ty z vs dv)
    {g : JFrame} (hg : g.method = m) {rest : List Value} (hs : g.stack = .ref a :: rest) (hd : decode c.code g.pc = .ok (.arraylength, 1)) :
    ∀ target, Steps p.tables e below (T.setTop { g with pc := g.pc + 1, stack := .int z :: rest }) target → Steps p.tables e below (T.setTop g) target := by
  obtain ⟨cl, A, q1, S, q3, H, G⟩ := V
  intro target k
  refine X.arraylength hx (by rw [eT]; exact A.1) (State.isArrayOf_alike hZ.alike A.2.1) hg hs hd _ ?_
  rw [len_of S q3]
  exact k
theorem own_osz {n0 : Nat} (O : Old Z n0 h) : n0 ≤ h.size := by have := O.2.1; rw [O.1] at this; exact this
theorem own_fldI {t : Term} {C n d : String} {k : Int32} {a : Addr} (ev : t.eval args Z none [] Z = some (.ref a)) (hh : (Jvm.Cond.eq (Term.field t C n d) (Term.int k)).value args Z none Z [] = some true) : Fld Z Z.heap a C n d (.int k) := by
  refine Fld.start ?_
  rw [← fld_at (t := t) (args := args) (first := Z) (o := none) (idx := []) ev]
  cases hq : (Term.field t C n d).eval args Z none [] Z with
  | none => simp [Cond.value, hq] at hh
  | some v =>
    simp only [Cond.value, hq, Term.int_eval] at hh
    cases v <;> simp at hh ⊢ <;> exact hh
theorem own_fldJ {t : Term} {C n d : String} {k : Int64} {a : Addr} (ev : t.eval args Z none [] Z = some (.ref a)) (hh : (Jvm.Cond.eq (Term.field t C n d) (Term.long k)).value args Z none Z [] = some true) : Fld Z Z.heap a C n d (.long k) := by
  refine Fld.start ?_
  rw [← fld_at (t := t) (args := args) (first := Z) (o := none) (idx := []) ev]
  cases hq : (Term.field t C n d).eval args Z none [] Z with
  | none => simp [Cond.value, hq] at hh
  | some v =>
    have hk : (Term.long k).eval args Z none [] Z = some (.long k) := rfl
    simp only [Cond.value, hq, hk] at hh
    cases v <;> simp at hh ⊢ <;> exact hh
theorem own_fldN {t : Term} {C n d : String} {a : Addr} (ev : t.eval args Z none [] Z = some (.ref a)) (hh : (Jvm.Cond.eq (Term.field t C n d) Term.null).value args Z none Z [] = some true) : Fld Z Z.heap a C n d .null := by
  refine Fld.start ?_
  rw [← fld_at (t := t) (args := args) (first := Z) (o := none) (idx := []) ev]
  exact null_v hh
theorem own_fldR {t u : Term} {C n d : String} {a b : Addr} (ev : t.eval args Z none [] Z = some (.ref a)) (eu : u.eval args Z none [] Z = some (.ref b)) (hh : (Jvm.Cond.eq (Term.field t C n d) u).value args Z none Z [] = some true) : Fld Z Z.heap a C n d (.ref b) := by
  refine Fld.start ?_
  rw [← fld_at (t := t) (args := args) (first := Z) (o := none) (idx := []) ev]
  cases hq : (Term.field t C n d).eval args Z none [] Z with
  | none => simp [Cond.value, hq] at hh
  | some v => cases v <;> simp [Cond.value, hq, eu] at hh ⊢ <;> exact hh
theorem own_fldX {t : Term} {C n d K : String} {a : Addr} (ev : t.eval args Z none [] Z = some (.ref a)) (hh : (Jvm.Cond.exactly (Term.field t C n d) K).value args Z none Z [] = some true) : ∃ b, Fld Z Z.heap a C n d (.ref b) ∧ Exa Z Z.heap b K := by
  obtain ⟨b, hb⟩ := exa_v hh
  refine ⟨b, Fld.start ?_, Exa.start hb hh⟩
  rw [← fld_at (t := t) (args := args) (first := Z) (o := none) (idx := []) ev]
  exact hb
theorem own_ne {h : Heap} {a b : Addr} {C n d : String} {i j : Int32} (F : Fld Z h a C n d (.int i)) (G : Fld Z h b C n d (.int j)) (q : i ≠ j) : a ≠ b := F.ne G fun r => q (Value.int.inj r)
end OwnKit
section OwnKit3
variable {p : Program} {l : Launch} {e : Env} {R : Room} {s : State} {m : MethodId} {args : Array Value} {below : List Frame} {meth : Method} {c : Code} {T : State} {locs : List Loc} {cells slots : Nat} {Z : State} {a0 : Array Value} {h : Heap}
/-- an array of a primitive kind of a written length, made -/
theorem own_newP (X : Stand p l e R s m args below meth c T locs cells slots) (hx : p.tables.exec = Jvm.exec) (hZ : Z.Warmed39 s.vm) {aty : ArrayType} (w : (Jvm.Cond.arrayClass (newarray.typeOf aty)).before a0 Z = true) (eT : T.heap = h)
    {g : JFrame} (hg : g.method = m) (hd : decode c.code g.pc = .ok (.newarray aty, 2)) {n : Int32} {rest : List Value} (hs : g.stack = .int n :: rest) (hn : ¬ n < 0) {cap : Nat} (hcap : n.toNatClampNeg ≤ cap) (hb : cap * 8 ≤ 536870912) (hc : cells + 1 ≤ R.cells) (hl : slots + cap ≤ R.slots) :
    ∃ T' h' k a, Stand p l e R s m args below meth c T' locs (cells + 1) (slots + cap) ∧ T'.heap = h' ∧ a = h.size ∧ Ext h h' ∧ Arv Z h' a k (newarray.typeOf aty) n (List.replicate cap (defaultValue (newarray.typeOf aty))) (defaultValue (newarray.typeOf aty)) ∧
      ∀ target, Steps p.tables e below (T'.setTop { g with pc := g.pc + 2, stack := .ref a :: rest }) target → Steps p.tables e below (T.setTop g) target := by
  obtain ⟨T', h', k, X', e', E, A, st⟩ := newP X hx hZ w eT hg hd hs hn hcap hb hc hl
  exact ⟨T', h', k, _, X', e', rfl, E, (Arv.new A hn).pad (pad_rep [] _ cap), st⟩
theorem own_putC (X : Stand p l e R s m args below meth c T locs cells slots) (hx : p.tables.exec = Jvm.exec) (hZ : Z.Warmed39 s.vm) (eT : T.heap = h) {a : Addr} {k : ClassId} {z : Int32} {vs : List Value} {dv : Value} (V : Arv Z h a k .char z vs dv) {j x y : Int32} (hxy : nar .char x = y) (hj : ¬ j < 0 ∧ j < z) (i : Nat) (hi : j.toNatClampNeg = i) (hl : i < vs.length)
    {g : JFrame} (hg : g.method = m) {rest : List Value} (hs : g.stack = .int x :: .int j :: .ref a :: rest) (hd : decode c.code g.pc = .ok (.castore, 1)) :
    ∃ T' h', Stand p l e R s m args below meth c T' (locs ++ [⟨a, j.toNatClampNeg⟩]) cells slots ∧ T'.heap = h' ∧ Wr h h' a j.toNatClampNeg (.int y) ∧ Arv Z h' a k .char z (vs.set i (.int y)) dv ∧ ∀ target, Steps p.tables e below (T'.setTop { g with pc := g.pc + 1, stack := rest }) target → Steps p.tables e below (T.setTop g) target := by
  subst hxy
  obtain ⟨cl, A, q1, S, q3, H, G⟩ := V
  obtain ⟨T', h', X', e', W, st⟩ := stC X hx hZ eT A (j := j) (inb_of S hj) hg hs hd
  exact ⟨T', h', X', e', W, Arv.set A q1 S q3 H G (fits_nar_char x) W i hi hl, st⟩
theorem own_putB (X : Stand p l e R s m args below meth c T locs cells slots) (hx : p.tables.exec = Jvm.exec) (hZ : Z.Warmed39 s.vm) (eT : T.heap = h) {a : Addr} {k : ClassId} {z : Int32} {vs : List Value} {dv : Value} (V : Arv Z h a k .byte z vs dv) {j x y : Int32} (hxy : nar .byte x = y) (hj : ¬ j < 0 ∧ j < z) (i : Nat) (hi : j.toNatClampNeg = i) (hl : i < vs.length)
    {g : JFrame} (hg : g.method = m) {rest : List Value} (hs : g.stack = .int x :: .int j :: .ref a :: rest) (hd : decode c.code g.pc = .ok (.bastore, 1)) :
    ∃ T' h', Stand p l e R s m args below meth c T' (locs ++ [⟨a, j.toNatClampNeg⟩]) cells slots ∧ T'.heap = h' ∧ Wr h h' a j.toNatClampNeg (.int y) ∧ Arv Z h' a k .byte z (vs.set i (.int y)) dv ∧ ∀ target, Steps p.tables e below (T'.setTop { g with pc := g.pc + 1, stack := rest }) target → Steps p.tables e below (T.setTop g) target := by
  subst hxy
  obtain ⟨cl, A, q1, S, q3, H, G⟩ := V
  obtain ⟨T', h', X', e', W, st⟩ := stB X hx hZ eT A (j := j) (inb_of S hj) hg hs hd
  exact ⟨T', h', X', e', W, Arv.set A q1 S q3 H G (fits_nar_byte x) W i hi hl, st⟩
theorem own_nz {t : Term} {k z : Int32} (ev : t.eval args Z none [] Z = some (.int z)) (hh : (Jvm.Cond.not (Jvm.Cond.eq t (Term.int k))).value args Z none Z [] = some true) : ¬ z = k := by
  have q := not_v hh
  simp only [Cond.value, ev, Term.int_eval] at q
  simpa using q
theorem own_255 (x : Int32) : ¬ (255 : Int32) < x &&& 255 := by
  have h1 := c_and x 255 (by decide)
  rw [Int32.lt_iff_toInt_lt]; omega
theorem own_p255 (x : Int32) : ¬ x &&& 255 < 0 ∧ ¬ (255 : Int32) < x &&& 255 := by
  have h1 := c_and x 255 (by decide)
  refine ⟨?_, own_255 x⟩
  rw [Int32.lt_iff_toInt_lt]; have : (0 : Int32).toInt = 0 := rfl
  omega
end OwnKit3
def own_S (Z : State) (c_OUTPUT : Addr) (c_INPUT : Addr) (z_COMPACT_STRINGS : Int32) : Prop := (Sta Z Z.heap "com/example/bridgr/bridgr/spec/Section" "OUTPUT" "Lcom/example/bridgr/bridgr/spec/Section;" (.ref c_OUTPUT)) ∧
  (Exa Z Z.heap c_OUTPUT "com/example/bridgr/bridgr/spec/Section") ∧
  (Sta Z Z.heap "com/example/bridgr/bridgr/spec/Section" "INPUT" "Lcom/example/bridgr/bridgr/spec/Section;" (.ref c_INPUT)) ∧
  (Exa Z Z.heap c_INPUT "com/example/bridgr/bridgr/spec/Section") ∧
  (Fld Z Z.heap c_OUTPUT "java/lang/Enum" "ordinal" "I" (.int (1 : Int32))) ∧
  (Fld Z Z.heap c_INPUT "java/lang/Enum" "ordinal" "I" (.int (0 : Int32))) ∧
  (Sta Z Z.heap "java/lang/String" "COMPACT_STRINGS" "Z" (.int z_COMPACT_STRINGS)) ∧
  (¬ z_COMPACT_STRINGS = (0 : Int32))
theorem d2_0 : decode jdk_43_method_3_code 0 = .ok (.iload_n 0, 1) := by decide +kernel
theorem d2_1 : decode jdk_43_method_3_code 1 = .ok (.sipush 255, 3) := by decide +kernel
theorem d2_4 : decode jdk_43_method_3_code 4 = .ok (.if_icmp .gt 7, 3) := by decide +kernel
theorem d2_7 : decode jdk_43_method_3_code 7 = .ok (.iconst 1, 1) := by decide +kernel
theorem d2_8 : decode jdk_43_method_3_code 8 = .ok (.goto 4, 3) := by decide +kernel
theorem d2_12 : decode jdk_43_method_3_code 12 = .ok (.ireturn, 1) := by decide +kernel
theorem own_pn_2 : plainFor (⟨"java/lang/StringLatin1", "canEncode", "(C)Z"⟩ : MethodName) = true := plainFor_of_name (show plainName "java/lang/StringLatin1" = true by first | (simp [plainName, overriddenIn]; done) | decide +kernel)
theorem own_ef_rm_can (m : MethodId) (p1 : Int32) : entryFrame m #[(.int p1)] 1 = mkF m 0 #[.val (.int p1)] [] := by first | (simp [entryFrame, mkF, argsToLocals, Value.category]; done) | rfl
set_option maxRecDepth 65536 in
set_option maxHeartbeats 40000000 in
theorem rm_can (l : Launch) (Z : State) (a0 : Array Value) (hw : ∀ d ∈ tables_1, d.before a0 Z = true) (p1 : Int32) (h0 : Heap) (n0 : Nat) (O0 : Old Z n0 h0) (hq : ¬ (255 : Int32) < p1) :
    own_Met l Z (⟨"java/lang/StringLatin1", "canEncode", "(C)Z"⟩ : MethodName) jdk_43_method_3_code 1 (some .boolean) [] ({ frames := 0, cells := 0, slots := 0, locals := 0 } : Room) #[(.int p1)] h0 (fun v h L => v = some (.int (1 : Int32)) ∧ Fr n0 L ∧ h = h0) := by
  refine own_body own_pn_2 ?_
  intro p e s m below meth c s₁ hx hby hml hown hnm hret hlk X0 hZ e0
  replace hown : s.vm.findClass "java/lang/StringLatin1" = some m.cls := hown
  have N0 := Fr.nil n0
  have K0 := Keep.refl h0 []
  refine own_st (fun _ k => castTop (own_ef_rm_can m p1) k) ?_
  show own_go _ _ _ _ _ _ _ (s₁.setTop (mkF m 0 #[.val (.int p1)] []))
  refine own_st (fun _ k => XS.iloadN X0.here hx rfl (hb hby d2_0) rfl k) ?_
  show own_go _ _ _ _ _ _ _ (s₁.setTop (mkF m 1 #[.val (.int p1)] [(.int p1)]))
  refine own_st (fun _ k => XS.sipush X0.here hx rfl (hb hby d2_1) k) ?_
  show own_go _ _ _ _ _ _ _ (s₁.setTop (mkF m 4 #[.val (.int p1)] [(.int (255 : Int32)), (.int p1)]))
  refine own_st (fun _ k => XS.icmpNo X0.here hx rfl (hb hby d2_4) rfl (XT.ii_gt_f hq) k) ?_
  show own_go _ _ _ _ _ _ _ (s₁.setTop (mkF m 7 #[.val (.int p1)] []))
  refine own_st (fun _ k => XS.iconst X0.here hx rfl (hb hby d2_7) k) ?_
  show own_go _ _ _ _ _ _ _ (s₁.setTop (mkF m 8 #[.val (.int p1)] [(.int (1 : Int32))]))
  refine own_st (fun _ k => XS.goto X0.here hx rfl (pc0 := 8) (pc' := 12) rfl (hb hby d2_8) (by decide) (by decide) k) ?_
  show own_go _ _ _ _ _ _ _ (s₁.setTop (mkF m 12 #[.val (.int p1)] [(.int (1 : Int32))]))
  exact own_retN X0 hx hlk (t := .boolean) hret (by simp) rfl (hb hby d2_12) (by decide) (by decide) (⟨rfl, N0, e0⟩)
theorem d3_0 : decode jdk_43_method_46_code 0 = .ok (.iconst 1, 1) := by decide +kernel
theorem d3_1 : decode jdk_43_method_46_code 1 = .ok (.newarray .byte, 2) := by decide +kernel
theorem d3_3 : decode jdk_43_method_46_code 3 = .ok (.dup, 1) := by decide +kernel
theorem d3_4 : decode jdk_43_method_46_code 4 = .ok (.iconst 0, 1) := by decide +kernel
theorem d3_5 : decode jdk_43_method_46_code 5 = .ok (.iload_n 0, 1) := by decide +kernel
theorem d3_6 : decode jdk_43_method_46_code 6 = .ok (.i2b, 1) := by decide +kernel
theorem d3_7 : decode jdk_43_method_46_code 7 = .ok (.bastore, 1) := by decide +kernel
theorem d3_8 : decode jdk_43_method_46_code 8 = .ok (.areturn, 1) := by decide +kernel
theorem own_pn_3 : plainFor (⟨"java/lang/StringLatin1", "toBytes", "(C)[B"⟩ : MethodName) = true := plainFor_of_name (show plainName "java/lang/StringLatin1" = true by first | (simp [plainName, overriddenIn]; done) | decide +kernel)
theorem own_ef_rm_toB (m : MethodId) (p1 : Int32) : entryFrame m #[(.int p1)] 1 = mkF m 0 #[.val (.int p1)] [] := by first | (simp [entryFrame, mkF, argsToLocals, Value.category]; done) | rfl
set_option maxRecDepth 65536 in
set_option maxHeartbeats 40000000 in
theorem rm_toB (l : Launch) (Z : State) (a0 : Array Value) (hw : ∀ d ∈ tables_1, d.before a0 Z = true) (p1 : Int32) (h0 : Heap) (n0 : Nat) (O0 : Old Z n0 h0)  :
    own_Met l Z (⟨"java/lang/StringLatin1", "toBytes", "(C)[B"⟩ : MethodName) jdk_43_method_46_code 1 (some (.array .byte)) [] ({ frames := 0, cells := 1, slots := 1, locals := 0 } : Room) #[(.int p1)] h0 (fun v h L => ∃ a, v = some (.ref a) ∧ Fr n0 L ∧ Keep h0 h [] ∧ h0.size ≤ a) := by
  refine own_body own_pn_3 ?_
  intro p e s m below meth c s₁ hx hby hml hown hnm hret hlk X0 hZ e0
  replace hown : s.vm.findClass "java/lang/StringLatin1" = some m.cls := hown
  have N0 := Fr.nil n0
  have K0 := Keep.refl h0 []
  refine own_st (fun _ k => castTop (own_ef_rm_toB m p1) k) ?_
  show own_go _ _ _ _ _ _ _ (s₁.setTop (mkF m 0 #[.val (.int p1)] []))
  refine own_st (fun _ k => XS.iconst X0.here hx rfl (hb hby d3_0) k) ?_
  show own_go _ _ _ _ _ _ _ (s₁.setTop (mkF m 1 #[.val (.int p1)] [(.int (1 : Int32))]))
  obtain ⟨T1, h1, k1, b1, X1, e1, g1, E1, V1, st1⟩ := own_newP X0 hx hZ (aty := .byte) (hw _ (List.mem_of_getElem? (i := 17) rfl)) e0 (g := (mkF m 1 #[.val (.int p1)] [(.int (1 : Int32))])) rfl (hb hby d3_1) rfl (by decide) (cap := 1) (by decide) (by decide) (by decide) (by decide)
  replace V1 : Arv Z h1 b1 k1 .byte (1 : Int32) [(.int (0 : Int32))] (.int (0 : Int32)) := V1
  have ge_b1 : n0 ≤ b1 := by rw [g1]; exact own_osz O0
  have sz_b1 : h0.size ≤ b1 := by rw [g1]; exact K0.1
  have O1 := O0.ext E1
  have K1 := K0.ext E1
  refine own_st st1 ?_
  show own_go _ _ _ _ _ _ _ (T1.setTop (mkF m 3 #[.val (.int p1)] [(.ref b1)]))
  refine own_st (fun _ k => XS.dup X1.here hx rfl (hb hby d3_3) rfl rfl k) ?_
  show own_go _ _ _ _ _ _ _ (T1.setTop (mkF m 4 #[.val (.int p1)] [(.ref b1), (.ref b1)]))
  refine own_st (fun _ k => XS.iconst X1.here hx rfl (hb hby d3_4) k) ?_
  show own_go _ _ _ _ _ _ _ (T1.setTop (mkF m 5 #[.val (.int p1)] [(.int (0 : Int32)), (.ref b1), (.ref b1)]))
  refine own_st (fun _ k => XS.iloadN X1.here hx rfl (hb hby d3_5) rfl k) ?_
  show own_go _ _ _ _ _ _ _ (T1.setTop (mkF m 6 #[.val (.int p1)] [(.int p1), (.int (0 : Int32)), (.ref b1), (.ref b1)]))
  refine own_st (fun _ k => XS.i2b X1.here hx rfl (hb hby d3_6) rfl k) ?_
  show own_go _ _ _ _ _ _ _ (T1.setTop (mkF m 7 #[.val (.int p1)] [(.int (p1.toInt8.toInt32)), (.int (0 : Int32)), (.ref b1), (.ref b1)]))
  obtain ⟨T2, h2, X2, e2, W2, V2, st2⟩ := own_putB X1 hx hZ e1 V1 (y := (p1.toInt8.toInt32).toInt8.toInt32) rfl (j := (0 : Int32)) (by decide) 0 (by decide) (by show 0 < 1; decide) (g := (mkF m 7 #[.val (.int p1)] [(.int (p1.toInt8.toInt32)), (.int (0 : Int32)), (.ref b1), (.ref b1)])) rfl rfl (hb hby d3_7)
  have N2 := Fr.snoc X2 N0 ge_b1
  replace V2 : Arv Z h2 b1 k1 .byte (1 : Int32) [(.int (p1.toInt8.toInt32).toInt8.toInt32)] (.int (0 : Int32)) := V2
  have O3 := O1.wr W2 ge_b1
  have K3 := K1.wr W2 (Or.inr sz_b1)
  refine own_st st2 ?_
  show own_go _ _ _ _ _ _ _ (T2.setTop (mkF m 8 #[.val (.int p1)] [(.ref b1)]))
  exact own_retA X2 hx hlk hret rfl rfl (hb hby d3_8) (by decide) (by decide) (by rw [e2]; exact ⟨_, rfl, N2, K3, sz_b1⟩)
theorem d4_0 : decode jdk_42_method_151_code 0 = .ok (.aload_n 0, 1) := by decide +kernel
theorem d4_1 : decode jdk_42_method_151_code 1 = .ok (.invokespecial 1, 3) := by decide +kernel
theorem d4_4 : decode jdk_42_method_151_code 4 = .ok (.aload_n 0, 1) := by decide +kernel
theorem d4_5 : decode jdk_42_method_151_code 5 = .ok (.aload_n 1, 1) := by decide +kernel
theorem d4_6 : decode jdk_42_method_151_code 6 = .ok (.putfield 9, 3) := by decide +kernel
theorem d4_9 : decode jdk_42_method_151_code 9 = .ok (.aload_n 0, 1) := by decide +kernel
theorem d4_10 : decode jdk_42_method_151_code 10 = .ok (.iload_n 2, 1) := by decide +kernel
theorem d4_11 : decode jdk_42_method_151_code 11 = .ok (.putfield 15, 3) := by decide +kernel
theorem d4_14 : decode jdk_42_method_151_code 14 = .ok (.return_, 1) := by decide +kernel
theorem own_pn_4 : plainFor (⟨"java/lang/String", "<init>", "([BB)V"⟩ : MethodName) = true := plainFor_of_name (show plainName "java/lang/String" = true by first | (simp [plainName, overriddenIn]; done) | decide +kernel)
theorem own_ef_rm_sinit (m : MethodId) (a1 : Addr) (a2 : Addr) : entryFrame m #[(.ref a1), (.ref a2), (.int (0 : Int32))] 3 = mkF m 0 #[.val (.ref a1), .val (.ref a2), .val (.int (0 : Int32))] [] := by first | (simp [entryFrame, mkF, argsToLocals, Value.category]; done) | rfl
set_option maxRecDepth 65536 in
set_option maxHeartbeats 40000000 in
theorem rm_sinit (l : Launch) (Z : State) (a0 : Array Value) (hw : ∀ d ∈ tables_1, d.before a0 Z = true) (a1 a2 : Addr) (h0 : Heap) (n0 : Nat) (O0 : Old Z n0 h0) (g1 : n0 ≤ a1) (E1 : Exa Z h0 a1 "java/lang/String") (F1 : Fld Z h0 a1 "java/lang/String" "value" "[B" .null) (F2 : Fld Z h0 a1 "java/lang/String" "coder" "B" (.int (0 : Int32))) :
    own_Met l Z (⟨"java/lang/String", "<init>", "([BB)V"⟩ : MethodName) jdk_42_method_151_code 3 none [] ({ frames := 1, cells := 0, slots := 0, locals := 12 } : Room) #[(.ref a1), (.ref a2), (.int (0 : Int32))] h0 (fun v h L => v = none ∧ Fr n0 L ∧ Keep h0 h [a1]) := by
  refine own_body own_pn_4 ?_
  intro p e s m below meth c s₁ hx hby hml hown hnm hret hlk X0 hZ e0
  replace hown : s.vm.findClass "java/lang/String" = some m.cls := hown
  have N0 := Fr.nil n0
  have K0 := Keep.refl h0 [a1]
  refine own_st (fun _ k => castTop (own_ef_rm_sinit m a1 a2) k) ?_
  show own_go _ _ _ _ _ _ _ (s₁.setTop (mkF m 0 #[.val (.ref a1), .val (.ref a2), .val (.int (0 : Int32))] []))
  refine own_st (fun _ k => XS.aloadN X0.here hx rfl (hb hby d4_0) rfl rfl k) ?_
  show own_go _ _ _ _ _ _ _ (s₁.setTop (mkF m 1 #[.val (.ref a1), .val (.ref a2), .val (.int (0 : Int32))] [(.ref a1)]))
  obtain ⟨T5, X5, e5, st5⟩ := initO X0 hx hZ hown (hw _ (List.mem_of_getElem? (i := 22) rfl)) (hw _ (List.mem_of_getElem? (i := 23) rfl)) (hw _ (List.mem_of_getElem? (i := 24) rfl)) e0 (g := (mkF m 1 #[.val (.ref a1), .val (.ref a2), .val (.int (0 : Int32))] [(.ref a1)])) rfl (by rw [hml]; rfl) rfl (hb hby d4_1) (by decide) (W := 0) (by show 2 * 0 + _ ≤ _; exact Nat.le_of_eq rfl) (by decide)
  refine own_st st5 ?_
  show own_go _ _ _ _ _ _ _ (T5.setTop (mkF m 4 #[.val (.ref a1), .val (.ref a2), .val (.int (0 : Int32))] []))
  refine own_st (fun _ k => XS.aloadN X5.here hx rfl (hb hby d4_4) rfl rfl k) ?_
  show own_go _ _ _ _ _ _ _ (T5.setTop (mkF m 5 #[.val (.ref a1), .val (.ref a2), .val (.int (0 : Int32))] [(.ref a1)]))
  refine own_st (fun _ k => XS.aloadN X5.here hx rfl (hb hby d4_5) rfl rfl k) ?_
  show own_go _ _ _ _ _ _ _ (T5.setTop (mkF m 6 #[.val (.ref a1), .val (.ref a2), .val (.int (0 : Int32))] [(.ref a2), (.ref a1)]))
  obtain ⟨T6, h6, X6, e6, W6, st6⟩ := putF X5 hx hZ hown (host := "") (Or.inl (hw _ (List.mem_of_getElem? (i := 25) rfl))) Via.refl e5 F1 E1 (Or.inr ⟨(hw _ (List.mem_of_getElem? (i := 26) rfl)), rfl, hnm⟩) (hw _ (List.mem_of_getElem? (i := 13) rfl)) (ty := (.array .byte)) (by decide) rfl rfl (g := (mkF m 6 #[.val (.ref a1), .val (.ref a2), .val (.int (0 : Int32))] [(.ref a2), (.ref a1)])) rfl rfl (hb hby d4_6)
  have N6 := Fr.snoc X6 N0 g1
  have O7 := O0.wr W6 g1
  have K7 := K0.wr W6 (Or.inl (List.mem_of_getElem? (i := 0) rfl))
  have F6 := F1.same W6
  refine own_st st6 ?_
  show own_go _ _ _ _ _ _ _ (T6.setTop (mkF m 9 #[.val (.ref a1), .val (.ref a2), .val (.int (0 : Int32))] []))
  refine own_st (fun _ k => XS.aloadN X6.here hx rfl (hb hby d4_9) rfl rfl k) ?_
  show own_go _ _ _ _ _ _ _ (T6.setTop (mkF m 10 #[.val (.ref a1), .val (.ref a2), .val (.int (0 : Int32))] [(.ref a1)]))
  refine own_st (fun _ k => XS.iloadN X6.here hx rfl (hb hby d4_10) rfl k) ?_
  show own_go _ _ _ _ _ _ _ (T6.setTop (mkF m 11 #[.val (.ref a1), .val (.ref a2), .val (.int (0 : Int32))] [(.int (0 : Int32)), (.ref a1)]))
  have f9 := (F2.other W6 (Or.inr (slot_ne (Or.inr (hw _ (List.mem_of_getElem? (i := 28) rfl))) (Or.inr (hw _ (List.mem_of_getElem? (i := 26) rfl))) (by decide) (t := .byte) (t' := (.array .byte)) (by decide) (by decide))))
  have f10 := (E1.wr W6)
  obtain ⟨T8, h8, X8, e8, W8, st8⟩ := putF X6 hx hZ hown (host := "") (Or.inl (hw _ (List.mem_of_getElem? (i := 27) rfl))) Via.refl e6 f9 f10 (Or.inr ⟨(hw _ (List.mem_of_getElem? (i := 28) rfl)), rfl, hnm⟩) (hw _ (List.mem_of_getElem? (i := 13) rfl)) (ty := .byte) (by decide) rfl rfl (g := (mkF m 11 #[.val (.ref a1), .val (.ref a2), .val (.int (0 : Int32))] [(.int (0 : Int32)), (.ref a1)])) rfl rfl (hb hby d4_11)
  have N8 := Fr.snoc X8 N6 g1
  have O11 := O7.wr W8 g1
  have K11 := K7.wr W8 (Or.inl (List.mem_of_getElem? (i := 0) rfl))
  have F8 := f9.same W8
  refine own_st st8 ?_
  show own_go _ _ _ _ _ _ _ (T8.setTop (mkF m 14 #[.val (.ref a1), .val (.ref a2), .val (.int (0 : Int32))] []))
  exact own_ret0 X8 hx hlk hret (hb hby d4_14) (by decide) (by decide) (by rw [e8]; exact ⟨rfl, N8, K11⟩)
theorem d1_0 : decode jdk_42_method_139_code 0 = .ok (.getstatic 38, 3) := by decide +kernel
theorem d1_3 : decode jdk_42_method_139_code 3 = .ok (.ifCond .eq 23, 3) := by decide +kernel
theorem d1_6 : decode jdk_42_method_139_code 6 = .ok (.iload_n 0, 1) := by decide +kernel
theorem d1_7 : decode jdk_42_method_139_code 7 = .ok (.invokestatic 1015, 3) := by decide +kernel
theorem d1_10 : decode jdk_42_method_139_code 10 = .ok (.ifCond .eq 16, 3) := by decide +kernel
theorem d1_13 : decode jdk_42_method_139_code 13 = .ok (.new 10, 3) := by decide +kernel
theorem d1_16 : decode jdk_42_method_139_code 16 = .ok (.dup, 1) := by decide +kernel
theorem d1_17 : decode jdk_42_method_139_code 17 = .ok (.iload_n 0, 1) := by decide +kernel
theorem d1_18 : decode jdk_42_method_139_code 18 = .ok (.invokestatic 1018, 3) := by decide +kernel
theorem d1_21 : decode jdk_42_method_139_code 21 = .ok (.iconst 0, 1) := by decide +kernel
theorem d1_22 : decode jdk_42_method_139_code 22 = .ok (.invokespecial 209, 3) := by decide +kernel
theorem d1_25 : decode jdk_42_method_139_code 25 = .ok (.areturn, 1) := by decide +kernel
theorem own_pn_1 : plainFor (⟨"java/lang/String", "valueOf", "(C)Ljava/lang/String;"⟩ : MethodName) = true := plainFor_of_name (show plainName "java/lang/String" = true by first | (simp [plainName, overriddenIn]; done) | decide +kernel)
theorem own_pd__28C_29Z : parseMethodDescriptor "(C)Z" = some ⟨[.char], some .boolean⟩ := by decide +kernel
theorem own_pd__28C_29_5bB : parseMethodDescriptor "(C)[B" = some ⟨[.char], some (.array .byte)⟩ := by decide +kernel
theorem own_pd__28_5bBB_29V : parseMethodDescriptor "([BB)V" = some ⟨[(.array .byte), .byte], none⟩ := by decide +kernel
theorem own_ef_rm_valueOf (m : MethodId) (p1 : Int32) : entryFrame m #[(.int p1)] 1 = mkF m 0 #[.val (.int p1)] [] := by first | (simp [entryFrame, mkF, argsToLocals, Value.category]; done) | rfl
set_option maxRecDepth 65536 in
set_option maxHeartbeats 40000000 in
theorem rm_valueOf (l : Launch) (Z : State) (a0 : Array Value) (hw : ∀ d ∈ tables_1, d.before a0 Z = true) (p1 : Int32) (c_OUTPUT : Addr) (c_INPUT : Addr) (z_COMPACT_STRINGS : Int32) (h0 : Heap) (n0 : Nat) (O0 : Old Z n0 h0) (hS : own_S Z c_OUTPUT c_INPUT z_COMPACT_STRINGS) (hq : ¬ (255 : Int32) < p1) :
    own_Met l Z (⟨"java/lang/String", "valueOf", "(C)Ljava/lang/String;"⟩ : MethodName) jdk_42_method_139_code 1 (some (.object "java/lang/String")) [] ({ frames := 2, cells := 2, slots := 5, locals := 40 } : Room) #[(.int p1)] h0 (fun v h L => ∃ a, v = some (.ref a) ∧ Fr n0 L ∧ Keep h0 h [] ∧ h0.size ≤ a ∧ Exa Z h a "java/lang/String") := by
  refine own_body own_pn_1 ?_
  intro p e s m below meth c s₁ hx hby hml hown hnm hret hlk X0 hZ e0
  replace hown : s.vm.findClass "java/lang/String" = some m.cls := hown
  have N0 := Fr.nil n0
  have K0 := Keep.refl h0 []
  refine own_st (fun _ k => castTop (own_ef_rm_valueOf m p1) k) ?_
  show own_go _ _ _ _ _ _ _ (s₁.setTop (mkF m 0 #[.val (.int p1)] []))
  obtain ⟨T12, X12, e12, st12⟩ := getS2 X0 hx hZ hown (host := "") (Or.inl (hw _ (List.mem_of_getElem? (i := 7) rfl))) Via.refl e0 (hS.2.2.2.2.2.2.1.ext O0.2) (g := (mkF m 0 #[.val (.int p1)] [])) rfl (hb hby d1_0)
  refine own_st st12 ?_
  show own_go _ _ _ _ _ _ _ (T12.setTop (mkF m 3 #[.val (.int p1)] [(.int z_COMPACT_STRINGS)]))
  refine own_st (fun _ k => XS.ifNo X12.here hx rfl (hb hby d1_3) rfl (XT.i0_eq_f hS.2.2.2.2.2.2.2) k) ?_
  show own_go _ _ _ _ _ _ _ (T12.setTop (mkF m 6 #[.val (.int p1)] []))
  refine own_st (fun _ k => XS.iloadN X12.here hx rfl (hb hby d1_6) rfl k) ?_
  show own_go _ _ _ _ _ _ _ (T12.setTop (mkF m 7 #[.val (.int p1)] [(.int p1)]))
  obtain ⟨v13, T13, L13, X13, hQ13, st13⟩ := own_callS X12 hx hZ (argsL := [(.int p1)]) (rest := []) (rm_can l Z a0 hw p1 h0 n0 O0 hq) hown (hw _ (List.mem_of_getElem? (i := 8) rfl)) (hw _ (List.mem_of_getElem? (i := 9) rfl)) (hw _ (List.mem_of_getElem? (i := 10) rfl)) (hw _ (List.mem_of_getElem? (i := 11) rfl)) (by decide) e12 (g := (mkF m 7 #[.val (.int p1)] [(.int p1)])) rfl (by rw [hml]; rfl) (lenOf own_pd__28C_29Z rfl) rfl (W := 0) (by show 2 * 0 + _ ≤ _; exact Nat.le_of_eq rfl) (hb hby d1_7) (by decide) (by decide) (by decide) (by decide)
  obtain ⟨rfl, Nq13, eq13⟩ := hQ13
  have N13 := Fr.app N0 Nq13
  refine own_st st13 ?_
  show own_go _ _ _ _ _ _ _ (T13.setTop (mkF m 10 #[.val (.int p1)] [(.int (1 : Int32))]))
  refine own_st (fun _ k => XS.ifNo X13.here hx rfl (hb hby d1_10) rfl (by decide) k) ?_
  show own_go _ _ _ _ _ _ _ (T13.setTop (mkF m 13 #[.val (.int p1)] []))
  obtain ⟨T14, h14, X14, e14, E14, A14, D14, -, st14⟩ := newO X13 hx hZ hown (hw _ (List.mem_of_getElem? (i := 12) rfl)) (hw _ (List.mem_of_getElem? (i := 13) rfl)) (hw _ (List.mem_of_getElem? (i := 5) rfl)) eq13 (g := (mkF m 13 #[.val (.int p1)] [])) rfl (hb hby d1_13) (by decide) (by decide)
  obtain ⟨b14, g14⟩ : ∃ z, z = h0.size := ⟨_, rfl⟩
  rw [← g14] at A14 D14 st14
  have ge_b14 : n0 ≤ b14 := by rw [g14]; exact own_osz O0
  have sz_b14 : h0.size ≤ b14 := by rw [g14]; exact K0.1
  have O14 := O0.ext E14
  have K14 := K0.ext E14
  refine own_st st14 ?_
  show own_go _ _ _ _ _ _ _ (T14.setTop (mkF m 16 #[.val (.int p1)] [(.ref b14)]))
  refine own_st (fun _ k => XS.dup X14.here hx rfl (hb hby d1_16) rfl rfl k) ?_
  show own_go _ _ _ _ _ _ _ (T14.setTop (mkF m 17 #[.val (.int p1)] [(.ref b14), (.ref b14)]))
  refine own_st (fun _ k => XS.iloadN X14.here hx rfl (hb hby d1_17) rfl k) ?_
  show own_go _ _ _ _ _ _ _ (T14.setTop (mkF m 18 #[.val (.int p1)] [(.int p1), (.ref b14), (.ref b14)]))
  obtain ⟨v15, T15, L15, X15, hQ15, st15⟩ := own_callS X14 hx hZ (argsL := [(.int p1)]) (rest := [(.ref b14), (.ref b14)]) (rm_toB l Z a0 hw p1 h14 n0 O14) hown (hw _ (List.mem_of_getElem? (i := 14) rfl)) (hw _ (List.mem_of_getElem? (i := 15) rfl)) (hw _ (List.mem_of_getElem? (i := 10) rfl)) (hw _ (List.mem_of_getElem? (i := 16) rfl)) (by decide) e14 (g := (mkF m 18 #[.val (.int p1)] [(.int p1), (.ref b14), (.ref b14)])) rfl (by rw [hml]; rfl) (lenOf own_pd__28C_29_5bB rfl) rfl (W := 2) (by show 2 * 0 + _ ≤ _; exact Nat.le_of_eq rfl) (hb hby d1_18) (by decide) (by decide) (by decide) (by decide)
  obtain ⟨r15, rfl, Nq15, Kq15, sz15⟩ := hQ15
  have N15 := Fr.app N13 Nq15
  have ne_b14_r15 : b14 ≠ r15 := (Nat.ne_of_lt (Nat.lt_of_lt_of_le A14.lt sz15))
  have O15 := O14.keep Kq15 all0
  have K15 := K14.trans Kq15 all0
  refine own_st st15 ?_
  show own_go _ _ _ _ _ _ _ (T15.setTop (mkF m 21 #[.val (.int p1)] [(.ref r15), (.ref b14), (.ref b14)]))
  refine own_st (fun _ k => XS.iconst X15.here hx rfl (hb hby d1_21) k) ?_
  show own_go _ _ _ _ _ _ _ (T15.setTop (mkF m 22 #[.val (.int p1)] [(.int (0 : Int32)), (.ref r15), (.ref b14), (.ref b14)]))
  have f17 := (A14.keep Kq15)
  have f18 := ((D14 (Or.inr (hw _ (List.mem_of_getElem? (i := 26) rfl))) (ty := (.array .byte)) (by decide)).keep Kq15 nin0)
  have f19 := ((D14 (Or.inr (hw _ (List.mem_of_getElem? (i := 28) rfl))) (ty := .byte) (by decide)).keep Kq15 nin0)
  obtain ⟨v16, T16, L16, X16, hQ16, st16⟩ := own_callN X15 hx hZ (argsL := [(.ref r15), (.int (0 : Int32))]) (rest := [(.ref b14)]) (rm_sinit l Z a0 hw b14 r15 T15.heap n0 O15 ge_b14 f17 f18 f19) rfl hown (hw _ (List.mem_of_getElem? (i := 18) rfl)) (hw _ (List.mem_of_getElem? (i := 19) rfl)) (hw _ (List.mem_of_getElem? (i := 5) rfl)) (hw _ (List.mem_of_getElem? (i := 21) rfl)) (by decide) rfl (g := (mkF m 22 #[.val (.int p1)] [(.int (0 : Int32)), (.ref r15), (.ref b14), (.ref b14)])) rfl (by rw [hml]; rfl) (lenOf own_pd__28_5bBB_29V rfl) rfl (W := 1) (by show 2 * 0 + _ ≤ _; exact Nat.le_of_eq rfl) (hb hby d1_22) (by decide) (by decide) (by decide) (by decide)
  obtain ⟨rfl, Nq16, Kq16⟩ := hQ16
  have N16 := Fr.app N15 Nq16
  have O16 := O15.keep Kq16 (allS ge_b14 all0)
  have K16 := K15.trans Kq16 (allS (Or.inr sz_b14) all0)
  refine own_st st16 ?_
  show own_go _ _ _ _ _ _ _ (T16.setTop (mkF m 25 #[.val (.int p1)] [(.ref b14)]))
  have f20 := (f17.keep Kq16)
  exact own_retA X16 hx hlk hret rfl rfl (hb hby d1_25) (by decide) (by decide) ⟨_, rfl, N16, K16, sz_b14, f20⟩
theorem d7_0 : decode jdk_31_method_10_code 0 = .ok (.aload_n 0, 1) := by decide +kernel
theorem d7_1 : decode jdk_31_method_10_code 1 = .ok (.ifnonnull 11, 3) := by decide +kernel
theorem d7_12 : decode jdk_31_method_10_code 12 = .ok (.aload_n 0, 1) := by decide +kernel
theorem d7_13 : decode jdk_31_method_10_code 13 = .ok (.areturn, 1) := by decide +kernel
theorem own_pn_7 : plainFor (⟨"java/util/Objects", "requireNonNull", "(Ljava/lang/Object;)Ljava/lang/Object;"⟩ : MethodName) = true := plainFor_of_name (show plainName "java/util/Objects" = true by first | (simp [plainName, overriddenIn]; done) | decide +kernel)
theorem own_ef_rmo_req (m : MethodId) (a1 : Addr) : entryFrame m #[(.ref a1)] 1 = mkF m 0 #[.val (.ref a1)] [] := by first | (simp [entryFrame, mkF, argsToLocals, Value.category]; done) | rfl
set_option maxRecDepth 65536 in
set_option maxHeartbeats 40000000 in
theorem rmo_req (l : Launch) (Z : State) (a0 : Array Value) (hw : ∀ d ∈ tables_1, d.before a0 Z = true) (a1 : Addr) (h0 : Heap) (n0 : Nat) (O0 : Old Z n0 h0)  :
    own_Met l Z (⟨"java/util/Objects", "requireNonNull", "(Ljava/lang/Object;)Ljava/lang/Object;"⟩ : MethodName) jdk_31_method_10_code 1 (some (.object "java/lang/Object")) [] ({ frames := 0, cells := 0, slots := 0, locals := 0 } : Room) #[(.ref a1)] h0 (fun v h L => v = some (.ref a1) ∧ Fr n0 L ∧ h = h0) := by
  refine own_body own_pn_7 ?_
  intro p e s m below meth c s₁ hx hby hml hown hnm hret hlk X0 hZ e0
  replace hown : s.vm.findClass "java/util/Objects" = some m.cls := hown
  have N0 := Fr.nil n0
  have K0 := Keep.refl h0 []
  refine own_st (fun _ k => castTop (own_ef_rmo_req m a1) k) ?_
  show own_go _ _ _ _ _ _ _ (s₁.setTop (mkF m 0 #[.val (.ref a1)] []))
  refine own_st (fun _ k => XS.aloadN X0.here hx rfl (hb hby d7_0) rfl rfl k) ?_
  show own_go _ _ _ _ _ _ _ (s₁.setTop (mkF m 1 #[.val (.ref a1)] [(.ref a1)]))
  refine own_st (fun _ k => XS.ifnonnullYes X0.here hx rfl (pc0 := 1) (pc' := 12) rfl (hb hby d7_1) rfl (by decide) (by decide) k) ?_
  show own_go _ _ _ _ _ _ _ (s₁.setTop (mkF m 12 #[.val (.ref a1)] []))
  refine own_st (fun _ k => XS.aloadN X0.here hx rfl (hb hby d7_12) rfl rfl k) ?_
  show own_go _ _ _ _ _ _ _ (s₁.setTop (mkF m 13 #[.val (.ref a1)] [(.ref a1)]))
  exact own_retA X0 hx hlk hret rfl rfl (hb hby d7_13) (by decide) (by decide) (⟨rfl, N0, e0⟩)
theorem d9_0 : decode prog_19_method_6_code 0 = .ok (.aload_n 0, 1) := by decide +kernel
theorem d9_1 : decode prog_19_method_6_code 1 = .ok (.getstatic 3, 3) := by decide +kernel
theorem d9_4 : decode prog_19_method_6_code 4 = .ok (.if_acmp .eq 10, 3) := by decide +kernel
theorem d9_14 : decode prog_19_method_6_code 14 = .ok (.iconst 1, 1) := by decide +kernel
theorem d9_15 : decode prog_19_method_6_code 15 = .ok (.goto 4, 3) := by decide +kernel
theorem d9_19 : decode prog_19_method_6_code 19 = .ok (.ireturn, 1) := by decide +kernel
theorem own_pn_9 : plainFor (⟨"com/example/bridgr/bridgr/spec/Section", "declaresVariables", "()Z"⟩ : MethodName) = true := plainFor_of_name (show plainName "com/example/bridgr/bridgr/spec/Section" = true by first | (simp [plainName, overriddenIn]; done) | decide +kernel)
theorem own_ef_rm_dv_0 (m : MethodId) (c_INPUT : Addr) : entryFrame m #[(.ref c_INPUT)] 1 = mkF m 0 #[.val (.ref c_INPUT)] [] := by first | (simp [entryFrame, mkF, argsToLocals, Value.category]; done) | rfl
set_option maxRecDepth 65536 in
set_option maxHeartbeats 40000000 in
theorem rm_dv_0 (l : Launch) (Z : State) (a0 : Array Value) (hw : ∀ d ∈ tables_1, d.before a0 Z = true) (c_OUTPUT : Addr) (c_INPUT : Addr) (z_COMPACT_STRINGS : Int32) (h0 : Heap) (n0 : Nat) (O0 : Old Z n0 h0) (hS : own_S Z c_OUTPUT c_INPUT z_COMPACT_STRINGS) :
    own_Met l Z (⟨"com/example/bridgr/bridgr/spec/Section", "declaresVariables", "()Z"⟩ : MethodName) prog_19_method_6_code 1 (some .boolean) [] ({ frames := 0, cells := 0, slots := 0, locals := 0 } : Room) #[(.ref c_INPUT)] h0 (fun v h L => v = some (.int (1 : Int32)) ∧ Fr n0 L ∧ h = h0) := by
  refine own_body own_pn_9 ?_
  intro p e s m below meth c s₁ hx hby hml hown hnm hret hlk X0 hZ e0
  replace hown : s.vm.findClass "com/example/bridgr/bridgr/spec/Section" = some m.cls := hown
  have N0 := Fr.nil n0
  have K0 := Keep.refl h0 []
  refine own_st (fun _ k => castTop (own_ef_rm_dv_0 m c_INPUT) k) ?_
  show own_go _ _ _ _ _ _ _ (s₁.setTop (mkF m 0 #[.val (.ref c_INPUT)] []))
  refine own_st (fun _ k => XS.aloadN X0.here hx rfl (hb hby d9_0) rfl rfl k) ?_
  show own_go _ _ _ _ _ _ _ (s₁.setTop (mkF m 1 #[.val (.ref c_INPUT)] [(.ref c_INPUT)]))
  obtain ⟨T21, X21, e21, st21⟩ := getS2 X0 hx hZ hown (host := "") (Or.inl (hw _ (List.mem_of_getElem? (i := 51) rfl))) Via.refl e0 (hS.2.2.1.ext O0.2) (g := (mkF m 1 #[.val (.ref c_INPUT)] [(.ref c_INPUT)])) rfl (hb hby d9_1)
  refine own_st st21 ?_
  show own_go _ _ _ _ _ _ _ (T21.setTop (mkF m 4 #[.val (.ref c_INPUT)] [(.ref c_INPUT), (.ref c_INPUT)]))
  refine own_st (fun _ k => Jvm.RoadKit.acmp (g := (mkF m 4 #[.val (.ref c_INPUT)] [(.ref c_INPUT), (.ref c_INPUT)])) X21 hx rfl rfl rfl (pc0 := 4) (pc' := 14) (same := true) rfl (hb hby d9_4) rfl (decide_eq_true rfl) (by decide) (by decide) k) ?_
  show own_go _ _ _ _ _ _ _ (T21.setTop (mkF m 14 #[.val (.ref c_INPUT)] []))
  refine own_st (fun _ k => XS.iconst X21.here hx rfl (hb hby d9_14) k) ?_
  show own_go _ _ _ _ _ _ _ (T21.setTop (mkF m 15 #[.val (.ref c_INPUT)] [(.int (1 : Int32))]))
  refine own_st (fun _ k => XS.goto X21.here hx rfl (pc0 := 15) (pc' := 19) rfl (hb hby d9_15) (by decide) (by decide) k) ?_
  show own_go _ _ _ _ _ _ _ (T21.setTop (mkF m 19 #[.val (.ref c_INPUT)] [(.int (1 : Int32))]))
  exact own_retN X21 hx hlk (t := .boolean) hret (by simp) rfl (hb hby d9_19) (by decide) (by decide) (⟨rfl, N0, e21⟩)
theorem d8_0 : decode prog_30_method_3_code 0 = .ok (.aload_n 0, 1) := by decide +kernel
theorem d8_1 : decode prog_30_method_3_code 1 = .ok (.invokevirtual 55, 3) := by decide +kernel
theorem d8_4 : decode prog_30_method_3_code 4 = .ok (.ifCond .ne 20, 3) := by decide +kernel
theorem d8_24 : decode prog_30_method_3_code 24 = .ok (.aload_n 0, 1) := by decide +kernel
theorem d8_25 : decode prog_30_method_3_code 25 = .ok (.areturn, 1) := by decide +kernel
theorem own_pn_8 : plainFor (⟨"com/example/bridgr/bridgr/spec/Variable", "checkDeclaration", "(Lcom/example/bridgr/bridgr/spec/Section;)Lcom/example/bridgr/bridgr/spec/Section;"⟩ : MethodName) = true := plainFor_of_name (show plainName "com/example/bridgr/bridgr/spec/Variable" = true by first | (simp [plainName, overriddenIn]; done) | decide +kernel)
theorem own_pd__28_29Z : parseMethodDescriptor "()Z" = some ⟨[], some .boolean⟩ := by decide +kernel
theorem own_ef_rm_cd_0 (m : MethodId) (c_INPUT : Addr) : entryFrame m #[(.ref c_INPUT)] 1 = mkF m 0 #[.val (.ref c_INPUT)] [] := by first | (simp [entryFrame, mkF, argsToLocals, Value.category]; done) | rfl
set_option maxRecDepth 65536 in
set_option maxHeartbeats 40000000 in
theorem rm_cd_0 (l : Launch) (Z : State) (a0 : Array Value) (hw : ∀ d ∈ tables_1, d.before a0 Z = true) (c_OUTPUT : Addr) (c_INPUT : Addr) (z_COMPACT_STRINGS : Int32) (h0 : Heap) (n0 : Nat) (O0 : Old Z n0 h0) (hS : own_S Z c_OUTPUT c_INPUT z_COMPACT_STRINGS) :
    own_Met l Z (⟨"com/example/bridgr/bridgr/spec/Variable", "checkDeclaration", "(Lcom/example/bridgr/bridgr/spec/Section;)Lcom/example/bridgr/bridgr/spec/Section;"⟩ : MethodName) prog_30_method_3_code 1 (some (.object "com/example/bridgr/bridgr/spec/Section")) [] ({ frames := 1, cells := 0, slots := 0, locals := 12 } : Room) #[(.ref c_INPUT)] h0 (fun v h L => v = some (.ref c_INPUT) ∧ Fr n0 L ∧ h = h0) := by
  refine own_body own_pn_8 ?_
  intro p e s m below meth c s₁ hx hby hml hown hnm hret hlk X0 hZ e0
  replace hown : s.vm.findClass "com/example/bridgr/bridgr/spec/Variable" = some m.cls := hown
  have N0 := Fr.nil n0
  have K0 := Keep.refl h0 []
  refine own_st (fun _ k => castTop (own_ef_rm_cd_0 m c_INPUT) k) ?_
  show own_go _ _ _ _ _ _ _ (s₁.setTop (mkF m 0 #[.val (.ref c_INPUT)] []))
  refine own_st (fun _ k => XS.aloadN X0.here hx rfl (hb hby d8_0) rfl rfl k) ?_
  show own_go _ _ _ _ _ _ _ (s₁.setTop (mkF m 1 #[.val (.ref c_INPUT)] [(.ref c_INPUT)]))
  obtain ⟨v22, T22, L22, X22, hQ22, st22⟩ := own_callV X0 hx hZ (argsL := []) (rest := []) (rm_dv_0 l Z a0 hw c_OUTPUT c_INPUT z_COMPACT_STRINGS h0 n0 O0 hS) hown (hw _ (List.mem_of_getElem? (i := 46) rfl)) (hw _ (List.mem_of_getElem? (i := 47) rfl)) (notFace_of_selects (args := #[]) (mvT hZ (hw _ (List.mem_of_getElem? (i := 49) rfl)))) (hw _ (List.mem_of_getElem? (i := 49) rfl)) (hw _ (List.mem_of_getElem? (i := 48) rfl)) (hw _ (List.mem_of_getElem? (i := 1) rfl)) (hw _ (List.mem_of_getElem? (i := 50) rfl)) (by decide) e0 (hS.2.2.2.1.ext O0.2) (g := (mkF m 1 #[.val (.ref c_INPUT)] [(.ref c_INPUT)])) rfl (by rw [hml]; rfl) (lenOf own_pd__28_29Z rfl) rfl (W := 0) (by show 2 * 0 + _ ≤ _; exact Nat.le_of_eq rfl) (hb hby d8_1) (by decide) (by decide) (by decide) (by decide)
  obtain ⟨rfl, Nq22, eq22⟩ := hQ22
  have N22 := Fr.app N0 Nq22
  refine own_st st22 ?_
  show own_go _ _ _ _ _ _ _ (T22.setTop (mkF m 4 #[.val (.ref c_INPUT)] [(.int (1 : Int32))]))
  refine own_st (fun _ k => XS.ifYes X22.here hx rfl (pc0 := 4) (pc' := 24) rfl (hb hby d8_4) rfl (by decide) (by decide) (by decide) k) ?_
  show own_go _ _ _ _ _ _ _ (T22.setTop (mkF m 24 #[.val (.ref c_INPUT)] []))
  refine own_st (fun _ k => XS.aloadN X22.here hx rfl (hb hby d8_24) rfl rfl k) ?_
  show own_go _ _ _ _ _ _ _ (T22.setTop (mkF m 25 #[.val (.ref c_INPUT)] [(.ref c_INPUT)]))
  exact own_retA X22 hx hlk hret rfl rfl (hb hby d8_25) (by decide) (by decide) (⟨rfl, N22, eq22⟩)
theorem d9_7 : decode prog_19_method_6_code 7 = .ok (.aload_n 0, 1) := by decide +kernel
theorem d9_8 : decode prog_19_method_6_code 8 = .ok (.getstatic 7, 3) := by decide +kernel
theorem d9_11 : decode prog_19_method_6_code 11 = .ok (.if_acmp .ne 7, 3) := by decide +kernel
theorem own_ef_rm_dv_1 (m : MethodId) (c_OUTPUT : Addr) : entryFrame m #[(.ref c_OUTPUT)] 1 = mkF m 0 #[.val (.ref c_OUTPUT)] [] := by first | (simp [entryFrame, mkF, argsToLocals, Value.category]; done) | rfl
set_option maxRecDepth 65536 in
set_option maxHeartbeats 40000000 in
theorem rm_dv_1 (l : Launch) (Z : State) (a0 : Array Value) (hw : ∀ d ∈ tables_1, d.before a0 Z = true) (c_OUTPUT : Addr) (c_INPUT : Addr) (z_COMPACT_STRINGS : Int32) (h0 : Heap) (n0 : Nat) (O0 : Old Z n0 h0) (hS : own_S Z c_OUTPUT c_INPUT z_COMPACT_STRINGS) :
    own_Met l Z (⟨"com/example/bridgr/bridgr/spec/Section", "declaresVariables", "()Z"⟩ : MethodName) prog_19_method_6_code 1 (some .boolean) [] ({ frames := 0, cells := 0, slots := 0, locals := 0 } : Room) #[(.ref c_OUTPUT)] h0 (fun v h L => v = some (.int (1 : Int32)) ∧ Fr n0 L ∧ h = h0) := by
  refine own_body own_pn_9 ?_
  intro p e s m below meth c s₁ hx hby hml hown hnm hret hlk X0 hZ e0
  replace hown : s.vm.findClass "com/example/bridgr/bridgr/spec/Section" = some m.cls := hown
  have N0 := Fr.nil n0
  have K0 := Keep.refl h0 []
  refine own_st (fun _ k => castTop (own_ef_rm_dv_1 m c_OUTPUT) k) ?_
  show own_go _ _ _ _ _ _ _ (s₁.setTop (mkF m 0 #[.val (.ref c_OUTPUT)] []))
  refine own_st (fun _ k => XS.aloadN X0.here hx rfl (hb hby d9_0) rfl rfl k) ?_
  show own_go _ _ _ _ _ _ _ (s₁.setTop (mkF m 1 #[.val (.ref c_OUTPUT)] [(.ref c_OUTPUT)]))
  obtain ⟨T23, X23, e23, st23⟩ := getS2 X0 hx hZ hown (host := "") (Or.inl (hw _ (List.mem_of_getElem? (i := 51) rfl))) Via.refl e0 (hS.2.2.1.ext O0.2) (g := (mkF m 1 #[.val (.ref c_OUTPUT)] [(.ref c_OUTPUT)])) rfl (hb hby d9_1)
  refine own_st st23 ?_
  show own_go _ _ _ _ _ _ _ (T23.setTop (mkF m 4 #[.val (.ref c_OUTPUT)] [(.ref c_INPUT), (.ref c_OUTPUT)]))
  refine own_st (fun _ k => Jvm.RoadKit.acmp (g := (mkF m 4 #[.val (.ref c_OUTPUT)] [(.ref c_INPUT), (.ref c_OUTPUT)])) X23 hx rfl rfl rfl (pc0 := 4) (pc' := 7) (same := false) rfl (hb hby d9_4) rfl (decide_eq_false fun q => (own_ne hS.2.2.2.2.1 hS.2.2.2.2.2.1 (by decide)) (Value.ref.inj q)) (by decide) (by decide) k) ?_
  show own_go _ _ _ _ _ _ _ (T23.setTop (mkF m 7 #[.val (.ref c_OUTPUT)] []))
  refine own_st (fun _ k => XS.aloadN X23.here hx rfl (hb hby d9_7) rfl rfl k) ?_
  show own_go _ _ _ _ _ _ _ (T23.setTop (mkF m 8 #[.val (.ref c_OUTPUT)] [(.ref c_OUTPUT)]))
  obtain ⟨T24, X24, e24, st24⟩ := getS2 X23 hx hZ hown (host := "") (Or.inl (hw _ (List.mem_of_getElem? (i := 53) rfl))) Via.refl e23 (hS.1.ext O0.2) (g := (mkF m 8 #[.val (.ref c_OUTPUT)] [(.ref c_OUTPUT)])) rfl (hb hby d9_8)
  refine own_st st24 ?_
  show own_go _ _ _ _ _ _ _ (T24.setTop (mkF m 11 #[.val (.ref c_OUTPUT)] [(.ref c_OUTPUT), (.ref c_OUTPUT)]))
  refine own_st (fun _ k => Jvm.RoadKit.acmp (g := (mkF m 11 #[.val (.ref c_OUTPUT)] [(.ref c_OUTPUT), (.ref c_OUTPUT)])) X24 hx rfl rfl rfl (pc0 := 11) (pc' := 14) (same := true) rfl (hb hby d9_11) rfl (decide_eq_true rfl) (by decide) (by decide) k) ?_
  show own_go _ _ _ _ _ _ _ (T24.setTop (mkF m 14 #[.val (.ref c_OUTPUT)] []))
  refine own_st (fun _ k => XS.iconst X24.here hx rfl (hb hby d9_14) k) ?_
  show own_go _ _ _ _ _ _ _ (T24.setTop (mkF m 15 #[.val (.ref c_OUTPUT)] [(.int (1 : Int32))]))
  refine own_st (fun _ k => XS.goto X24.here hx rfl (pc0 := 15) (pc' := 19) rfl (hb hby d9_15) (by decide) (by decide) k) ?_
  show own_go _ _ _ _ _ _ _ (T24.setTop (mkF m 19 #[.val (.ref c_OUTPUT)] [(.int (1 : Int32))]))
  exact own_retN X24 hx hlk (t := .boolean) hret (by simp) rfl (hb hby d9_19) (by decide) (by decide) (⟨rfl, N0, e24⟩)
theorem own_ef_rm_cd_1 (m : MethodId) (c_OUTPUT : Addr) : entryFrame m #[(.ref c_OUTPUT)] 1 = mkF m 0 #[.val (.ref c_OUTPUT)] [] := by first | (simp [entryFrame, mkF, argsToLocals, Value.category]; done) | rfl
set_option maxRecDepth 65536 in
set_option maxHeartbeats 40000000 in
theorem rm_cd_1 (l : Launch) (Z : State) (a0 : Array Value) (hw : ∀ d ∈ tables_1, d.before a0 Z = true) (c_OUTPUT : Addr) (c_INPUT : Addr) (z_COMPACT_STRINGS : Int32) (h0 : Heap) (n0 : Nat) (O0 : Old Z n0 h0) (hS : own_S Z c_OUTPUT c_INPUT z_COMPACT_STRINGS) :
    own_Met l Z (⟨"com/example/bridgr/bridgr/spec/Variable", "checkDeclaration", "(Lcom/example/bridgr/bridgr/spec/Section;)Lcom/example/bridgr/bridgr/spec/Section;"⟩ : MethodName) prog_30_method_3_code 1 (some (.object "com/example/bridgr/bridgr/spec/Section")) [] ({ frames := 1, cells := 0, slots := 0, locals := 12 } : Room) #[(.ref c_OUTPUT)] h0 (fun v h L => v = some (.ref c_OUTPUT) ∧ Fr n0 L ∧ h = h0) := by
  refine own_body own_pn_8 ?_
  intro p e s m below meth c s₁ hx hby hml hown hnm hret hlk X0 hZ e0
  replace hown : s.vm.findClass "com/example/bridgr/bridgr/spec/Variable" = some m.cls := hown
  have N0 := Fr.nil n0
  have K0 := Keep.refl h0 []
  refine own_st (fun _ k => castTop (own_ef_rm_cd_1 m c_OUTPUT) k) ?_
  show own_go _ _ _ _ _ _ _ (s₁.setTop (mkF m 0 #[.val (.ref c_OUTPUT)] []))
  refine own_st (fun _ k => XS.aloadN X0.here hx rfl (hb hby d8_0) rfl rfl k) ?_
  show own_go _ _ _ _ _ _ _ (s₁.setTop (mkF m 1 #[.val (.ref c_OUTPUT)] [(.ref c_OUTPUT)]))
  obtain ⟨v25, T25, L25, X25, hQ25, st25⟩ := own_callV X0 hx hZ (argsL := []) (rest := []) (rm_dv_1 l Z a0 hw c_OUTPUT c_INPUT z_COMPACT_STRINGS h0 n0 O0 hS) hown (hw _ (List.mem_of_getElem? (i := 46) rfl)) (hw _ (List.mem_of_getElem? (i := 47) rfl)) (notFace_of_selects (args := #[]) (mvT hZ (hw _ (List.mem_of_getElem? (i := 49) rfl)))) (hw _ (List.mem_of_getElem? (i := 49) rfl)) (hw _ (List.mem_of_getElem? (i := 48) rfl)) (hw _ (List.mem_of_getElem? (i := 1) rfl)) (hw _ (List.mem_of_getElem? (i := 50) rfl)) (by decide) e0 (hS.2.1.ext O0.2) (g := (mkF m 1 #[.val (.ref c_OUTPUT)] [(.ref c_OUTPUT)])) rfl (by rw [hml]; rfl) (lenOf own_pd__28_29Z rfl) rfl (W := 0) (by show 2 * 0 + _ ≤ _; exact Nat.le_of_eq rfl) (hb hby d8_1) (by decide) (by decide) (by decide) (by decide)
  obtain ⟨rfl, Nq25, eq25⟩ := hQ25
  have N25 := Fr.app N0 Nq25
  refine own_st st25 ?_
  show own_go _ _ _ _ _ _ _ (T25.setTop (mkF m 4 #[.val (.ref c_OUTPUT)] [(.int (1 : Int32))]))
  refine own_st (fun _ k => XS.ifYes X25.here hx rfl (pc0 := 4) (pc' := 24) rfl (hb hby d8_4) rfl (by decide) (by decide) (by decide) k) ?_
  show own_go _ _ _ _ _ _ _ (T25.setTop (mkF m 24 #[.val (.ref c_OUTPUT)] []))
  refine own_st (fun _ k => XS.aloadN X25.here hx rfl (hb hby d8_24) rfl rfl k) ?_
  show own_go _ _ _ _ _ _ _ (T25.setTop (mkF m 25 #[.val (.ref c_OUTPUT)] [(.ref c_OUTPUT)]))
  exact own_retA X25 hx hlk hret rfl rfl (hb hby d8_25) (by decide) (by decide) (⟨rfl, N25, eq25⟩)
theorem d6_0 : decode prog_30_method_1_code 0 = .ok (.aload_n 0, 1) := by decide +kernel
theorem d6_1 : decode prog_30_method_1_code 1 = .ok (.invokespecial 1, 3) := by decide +kernel
theorem d6_4 : decode prog_30_method_1_code 4 = .ok (.aload_n 0, 1) := by decide +kernel
theorem d6_5 : decode prog_30_method_1_code 5 = .ok (.aload_n 1, 1) := by decide +kernel
theorem d6_6 : decode prog_30_method_1_code 6 = .ok (.invokestatic 7, 3) := by decide +kernel
theorem d6_9 : decode prog_30_method_1_code 9 = .ok (.checkcast 13, 3) := by decide +kernel
theorem d6_12 : decode prog_30_method_1_code 12 = .ok (.putfield 15, 3) := by decide +kernel
theorem d6_15 : decode prog_30_method_1_code 15 = .ok (.aload_n 0, 1) := by decide +kernel
theorem d6_16 : decode prog_30_method_1_code 16 = .ok (.aload_n 2, 1) := by decide +kernel
theorem d6_17 : decode prog_30_method_1_code 17 = .ok (.invokestatic 21, 3) := by decide +kernel
theorem d6_20 : decode prog_30_method_1_code 20 = .ok (.putfield 25, 3) := by decide +kernel
theorem d6_23 : decode prog_30_method_1_code 23 = .ok (.aload_n 0, 1) := by decide +kernel
theorem d6_24 : decode prog_30_method_1_code 24 = .ok (.aconst_null, 1) := by decide +kernel
theorem d6_25 : decode prog_30_method_1_code 25 = .ok (.putfield 29, 3) := by decide +kernel
theorem d6_28 : decode prog_30_method_1_code 28 = .ok (.aload_n 0, 1) := by decide +kernel
theorem d6_29 : decode prog_30_method_1_code 29 = .ok (.aconst_null, 1) := by decide +kernel
theorem d6_30 : decode prog_30_method_1_code 30 = .ok (.putfield 33, 3) := by decide +kernel
theorem d6_33 : decode prog_30_method_1_code 33 = .ok (.return_, 1) := by decide +kernel
theorem own_pn_6 : plainFor (⟨"com/example/bridgr/bridgr/spec/Variable", "<init>", "(Ljava/lang/String;Lcom/example/bridgr/bridgr/spec/Section;)V"⟩ : MethodName) = true := plainFor_of_name (show plainName "com/example/bridgr/bridgr/spec/Variable" = true by first | (simp [plainName, overriddenIn]; done) | decide +kernel)
theorem own_pd__28Ljava_2flang_2fObject_3b_29Ljava_2flang_2fObject_3b : parseMethodDescriptor "(Ljava/lang/Object;)Ljava/lang/Object;" = some ⟨[(.object "java/lang/Object")], some (.object "java/lang/Object")⟩ := by decide +kernel
theorem own_pd__28Lcom_2fexample_2fbridgr_2fbridgr_2fspec_2fSection_3b_29Lcom_2fexample_2fbridgr_2fbridgr_2fspec_2fSection_3b : parseMethodDescriptor "(Lcom/example/bridgr/bridgr/spec/Section;)Lcom/example/bridgr/bridgr/spec/Section;" = some ⟨[(.object "com/example/bridgr/bridgr/spec/Section")], some (.object "com/example/bridgr/bridgr/spec/Section")⟩ := by decide +kernel
theorem own_ef_rm_vi_0 (m : MethodId) (a1 : Addr) (a2 : Addr) (c_INPUT : Addr) : entryFrame m #[(.ref a1), (.ref a2), (.ref c_INPUT)] 3 = mkF m 0 #[.val (.ref a1), .val (.ref a2), .val (.ref c_INPUT)] [] := by first | (simp [entryFrame, mkF, argsToLocals, Value.category]; done) | rfl
set_option maxRecDepth 65536 in
set_option maxHeartbeats 40000000 in
theorem rm_vi_0 (l : Launch) (Z : State) (a0 : Array Value) (hw : ∀ d ∈ tables_1, d.before a0 Z = true) (a1 a2 : Addr) (c_OUTPUT : Addr) (c_INPUT : Addr) (z_COMPACT_STRINGS : Int32) (h0 : Heap) (n0 : Nat) (O0 : Old Z n0 h0) (g1 : n0 ≤ a1) (E1 : Exa Z h0 a1 "com/example/bridgr/bridgr/spec/Variable") (E2 : Exa Z h0 a2 "java/lang/String") (F_name : Fld Z h0 a1 "com/example/bridgr/bridgr/spec/Variable" "name" "Ljava/lang/String;" .null) (F_declaration : Fld Z h0 a1 "com/example/bridgr/bridgr/spec/Variable" "declaration" "Lcom/example/bridgr/bridgr/spec/Section;" .null) (F_lowest : Fld Z h0 a1 "com/example/bridgr/bridgr/spec/Variable" "lowest" "Ljava/math/BigInteger;" .null) (F_highest : Fld Z h0 a1 "com/example/bridgr/bridgr/spec/Variable" "highest" "Ljava/math/BigInteger;" .null) (hS : own_S Z c_OUTPUT c_INPUT z_COMPACT_STRINGS) :
    own_Met l Z (⟨"com/example/bridgr/bridgr/spec/Variable", "<init>", "(Ljava/lang/String;Lcom/example/bridgr/bridgr/spec/Section;)V"⟩ : MethodName) prog_30_method_1_code 3 none [] ({ frames := 2, cells := 0, slots := 0, locals := 30 } : Room) #[(.ref a1), (.ref a2), (.ref c_INPUT)] h0 (fun v h L => v = none ∧ Fr n0 L ∧ Keep h0 h [a1] ∧ Fld Z h a1 "com/example/bridgr/bridgr/spec/Variable" "declaration" "Lcom/example/bridgr/bridgr/spec/Section;" (.ref c_INPUT)) := by
  refine own_body own_pn_6 ?_
  intro p e s m below meth c s₁ hx hby hml hown hnm hret hlk X0 hZ e0
  replace hown : s.vm.findClass "com/example/bridgr/bridgr/spec/Variable" = some m.cls := hown
  have N0 := Fr.nil n0
  have K0 := Keep.refl h0 [a1]
  refine own_st (fun _ k => castTop (own_ef_rm_vi_0 m a1 a2 c_INPUT) k) ?_
  show own_go _ _ _ _ _ _ _ (s₁.setTop (mkF m 0 #[.val (.ref a1), .val (.ref a2), .val (.ref c_INPUT)] []))
  refine own_st (fun _ k => XS.aloadN X0.here hx rfl (hb hby d6_0) rfl rfl k) ?_
  show own_go _ _ _ _ _ _ _ (s₁.setTop (mkF m 1 #[.val (.ref a1), .val (.ref a2), .val (.ref c_INPUT)] [(.ref a1)]))
  obtain ⟨T27, X27, e27, st27⟩ := initO X0 hx hZ hown (hw _ (List.mem_of_getElem? (i := 35) rfl)) (hw _ (List.mem_of_getElem? (i := 23) rfl)) (hw _ (List.mem_of_getElem? (i := 24) rfl)) e0 (g := (mkF m 1 #[.val (.ref a1), .val (.ref a2), .val (.ref c_INPUT)] [(.ref a1)])) rfl (by rw [hml]; rfl) rfl (hb hby d6_1) (by decide) (W := 0) (by show 2 * 0 + _ ≤ _; exact Nat.le_of_eq rfl) (by decide)
  refine own_st st27 ?_
  show own_go _ _ _ _ _ _ _ (T27.setTop (mkF m 4 #[.val (.ref a1), .val (.ref a2), .val (.ref c_INPUT)] []))
  refine own_st (fun _ k => XS.aloadN X27.here hx rfl (hb hby d6_4) rfl rfl k) ?_
  show own_go _ _ _ _ _ _ _ (T27.setTop (mkF m 5 #[.val (.ref a1), .val (.ref a2), .val (.ref c_INPUT)] [(.ref a1)]))
  refine own_st (fun _ k => XS.aloadN X27.here hx rfl (hb hby d6_5) rfl rfl k) ?_
  show own_go _ _ _ _ _ _ _ (T27.setTop (mkF m 6 #[.val (.ref a1), .val (.ref a2), .val (.ref c_INPUT)] [(.ref a2), (.ref a1)]))
  obtain ⟨v28, T28, L28, X28, hQ28, st28⟩ := own_callS X27 hx hZ (argsL := [(.ref a2)]) (rest := [(.ref a1)]) (rmo_req l Z a0 hw a2 h0 n0 O0) hown (hw _ (List.mem_of_getElem? (i := 36) rfl)) (hw _ (List.mem_of_getElem? (i := 37) rfl)) (hw _ (List.mem_of_getElem? (i := 38) rfl)) (hw _ (List.mem_of_getElem? (i := 39) rfl)) (by decide) e27 (g := (mkF m 6 #[.val (.ref a1), .val (.ref a2), .val (.ref c_INPUT)] [(.ref a2), (.ref a1)])) rfl (by rw [hml]; rfl) (lenOf own_pd__28Ljava_2flang_2fObject_3b_29Ljava_2flang_2fObject_3b rfl) rfl (W := 1) (by show 2 * 0 + _ ≤ _; exact Nat.le_of_eq rfl) (hb hby d6_6) (by decide) (by decide) (by decide) (by decide)
  obtain ⟨rfl, Nq28, eq28⟩ := hQ28
  have N28 := Fr.app N0 Nq28
  refine own_st st28 ?_
  show own_go _ _ _ _ _ _ _ (T28.setTop (mkF m 9 #[.val (.ref a1), .val (.ref a2), .val (.ref c_INPUT)] [(.ref a2), (.ref a1)]))
  obtain ⟨T29, X29, e29, st29⟩ := castY X28 hx hZ hown (hw _ (List.mem_of_getElem? (i := 40) rfl)) eq28 (Ins.self E2) (g := (mkF m 9 #[.val (.ref a1), .val (.ref a2), .val (.ref c_INPUT)] [(.ref a2), (.ref a1)])) rfl rfl (hb hby d6_9)
  refine own_st st29 ?_
  show own_go _ _ _ _ _ _ _ (T29.setTop (mkF m 12 #[.val (.ref a1), .val (.ref a2), .val (.ref c_INPUT)] [(.ref a2), (.ref a1)]))
  obtain ⟨T30, h30, X30, e30, W30, st30⟩ := putF X29 hx hZ hown (host := "") (Or.inl (hw _ (List.mem_of_getElem? (i := 41) rfl))) Via.refl e29 F_name E1 (Or.inr ⟨(hw _ (List.mem_of_getElem? (i := 42) rfl)), rfl, hnm⟩) (hw _ (List.mem_of_getElem? (i := 30) rfl)) (ty := (.object "java/lang/String")) (by decide) rfl rfl (g := (mkF m 12 #[.val (.ref a1), .val (.ref a2), .val (.ref c_INPUT)] [(.ref a2), (.ref a1)])) rfl rfl (hb hby d6_12)
  have N30 := Fr.snoc X30 N28 g1
  have O31 := O0.wr W30 g1
  have K31 := K0.wr W30 (Or.inl (List.mem_of_getElem? (i := 0) rfl))
  have F30 := F_name.same W30
  refine own_st st30 ?_
  show own_go _ _ _ _ _ _ _ (T30.setTop (mkF m 15 #[.val (.ref a1), .val (.ref a2), .val (.ref c_INPUT)] []))
  refine own_st (fun _ k => XS.aloadN X30.here hx rfl (hb hby d6_15) rfl rfl k) ?_
  show own_go _ _ _ _ _ _ _ (T30.setTop (mkF m 16 #[.val (.ref a1), .val (.ref a2), .val (.ref c_INPUT)] [(.ref a1)]))
  refine own_st (fun _ k => XS.aloadN X30.here hx rfl (hb hby d6_16) rfl rfl k) ?_
  show own_go _ _ _ _ _ _ _ (T30.setTop (mkF m 17 #[.val (.ref a1), .val (.ref a2), .val (.ref c_INPUT)] [(.ref c_INPUT), (.ref a1)]))
  obtain ⟨v32, T32, L32, X32, hQ32, st32⟩ := own_callS X30 hx hZ (argsL := [(.ref c_INPUT)]) (rest := [(.ref a1)]) (rm_cd_0 l Z a0 hw c_OUTPUT c_INPUT z_COMPACT_STRINGS h30 n0 O31 hS) hown (hw _ (List.mem_of_getElem? (i := 43) rfl)) (hw _ (List.mem_of_getElem? (i := 44) rfl)) (hw _ (List.mem_of_getElem? (i := 31) rfl)) (hw _ (List.mem_of_getElem? (i := 45) rfl)) (by decide) e30 (g := (mkF m 17 #[.val (.ref a1), .val (.ref a2), .val (.ref c_INPUT)] [(.ref c_INPUT), (.ref a1)])) rfl (by rw [hml]; rfl) (lenOf own_pd__28Lcom_2fexample_2fbridgr_2fbridgr_2fspec_2fSection_3b_29Lcom_2fexample_2fbridgr_2fbridgr_2fspec_2fSection_3b rfl) rfl (W := 1) (by show 2 * 0 + _ ≤ _; exact Nat.le_of_eq rfl) (hb hby d6_17) (by decide) (by decide) (by decide) (by decide)
  obtain ⟨rfl, Nq32, eq32⟩ := hQ32
  have N32 := Fr.app N30 Nq32
  refine own_st st32 ?_
  show own_go _ _ _ _ _ _ _ (T32.setTop (mkF m 20 #[.val (.ref a1), .val (.ref a2), .val (.ref c_INPUT)] [(.ref c_INPUT), (.ref a1)]))
  have f34 := (F_declaration.other W30 (Or.inr (slot_ne (Or.inr (hw _ (List.mem_of_getElem? (i := 55) rfl))) (Or.inr (hw _ (List.mem_of_getElem? (i := 42) rfl))) (by decide) (t := (.object "com/example/bridgr/bridgr/spec/Section")) (t' := (.object "java/lang/String")) (by decide) (by decide))))
  have f35 := (E1.wr W30)
  obtain ⟨T33, h33, X33, e33, W33, st33⟩ := putF X32 hx hZ hown (host := "") (Or.inl (hw _ (List.mem_of_getElem? (i := 54) rfl))) Via.refl eq32 f34 f35 (Or.inr ⟨(hw _ (List.mem_of_getElem? (i := 55) rfl)), rfl, hnm⟩) (hw _ (List.mem_of_getElem? (i := 30) rfl)) (ty := (.object "com/example/bridgr/bridgr/spec/Section")) (by decide) rfl rfl (g := (mkF m 20 #[.val (.ref a1), .val (.ref a2), .val (.ref c_INPUT)] [(.ref c_INPUT), (.ref a1)])) rfl rfl (hb hby d6_20)
  have N33 := Fr.snoc X33 N32 g1
  have O36 := O31.wr W33 g1
  have K36 := K31.wr W33 (Or.inl (List.mem_of_getElem? (i := 0) rfl))
  have F33 := f34.same W33
  refine own_st st33 ?_
  show own_go _ _ _ _ _ _ _ (T33.setTop (mkF m 23 #[.val (.ref a1), .val (.ref a2), .val (.ref c_INPUT)] []))
  refine own_st (fun _ k => XS.aloadN X33.here hx rfl (hb hby d6_23) rfl rfl k) ?_
  show own_go _ _ _ _ _ _ _ (T33.setTop (mkF m 24 #[.val (.ref a1), .val (.ref a2), .val (.ref c_INPUT)] [(.ref a1)]))
  refine own_st (fun _ k => XS.aconstNull X33.here hx rfl (hb hby d6_24) k) ?_
  show own_go _ _ _ _ _ _ _ (T33.setTop (mkF m 25 #[.val (.ref a1), .val (.ref a2), .val (.ref c_INPUT)] [.null, (.ref a1)]))
  have f38 := ((F_lowest.other W30 (Or.inr (slot_ne (Or.inr (hw _ (List.mem_of_getElem? (i := 57) rfl))) (Or.inr (hw _ (List.mem_of_getElem? (i := 42) rfl))) (by decide) (t := (.object "java/math/BigInteger")) (t' := (.object "java/lang/String")) (by decide) (by decide)))).other W33 (Or.inr (slot_ne (Or.inr (hw _ (List.mem_of_getElem? (i := 57) rfl))) (Or.inr (hw _ (List.mem_of_getElem? (i := 55) rfl))) (by decide) (t := (.object "java/math/BigInteger")) (t' := (.object "com/example/bridgr/bridgr/spec/Section")) (by decide) (by decide))))
  have f39 := (f35.wr W33)
  obtain ⟨T37, h37, X37, e37, W37, st37⟩ := putF X33 hx hZ hown (host := "") (Or.inl (hw _ (List.mem_of_getElem? (i := 56) rfl))) Via.refl e33 f38 f39 (Or.inr ⟨(hw _ (List.mem_of_getElem? (i := 57) rfl)), rfl, hnm⟩) (hw _ (List.mem_of_getElem? (i := 30) rfl)) (ty := (.object "java/math/BigInteger")) (by decide) rfl rfl (g := (mkF m 25 #[.val (.ref a1), .val (.ref a2), .val (.ref c_INPUT)] [.null, (.ref a1)])) rfl rfl (hb hby d6_25)
  have N37 := Fr.snoc X37 N33 g1
  have O40 := O36.wr W37 g1
  have K40 := K36.wr W37 (Or.inl (List.mem_of_getElem? (i := 0) rfl))
  have F37 := f38.same W37
  refine own_st st37 ?_
  show own_go _ _ _ _ _ _ _ (T37.setTop (mkF m 28 #[.val (.ref a1), .val (.ref a2), .val (.ref c_INPUT)] []))
  refine own_st (fun _ k => XS.aloadN X37.here hx rfl (hb hby d6_28) rfl rfl k) ?_
  show own_go _ _ _ _ _ _ _ (T37.setTop (mkF m 29 #[.val (.ref a1), .val (.ref a2), .val (.ref c_INPUT)] [(.ref a1)]))
  refine own_st (fun _ k => XS.aconstNull X37.here hx rfl (hb hby d6_29) k) ?_
  show own_go _ _ _ _ _ _ _ (T37.setTop (mkF m 30 #[.val (.ref a1), .val (.ref a2), .val (.ref c_INPUT)] [.null, (.ref a1)]))
  have f42 := (((F_highest.other W30 (Or.inr (slot_ne (Or.inr (hw _ (List.mem_of_getElem? (i := 59) rfl))) (Or.inr (hw _ (List.mem_of_getElem? (i := 42) rfl))) (by decide) (t := (.object "java/math/BigInteger")) (t' := (.object "java/lang/String")) (by decide) (by decide)))).other W33 (Or.inr (slot_ne (Or.inr (hw _ (List.mem_of_getElem? (i := 59) rfl))) (Or.inr (hw _ (List.mem_of_getElem? (i := 55) rfl))) (by decide) (t := (.object "java/math/BigInteger")) (t' := (.object "com/example/bridgr/bridgr/spec/Section")) (by decide) (by decide)))).other W37 (Or.inr (slot_ne (Or.inr (hw _ (List.mem_of_getElem? (i := 59) rfl))) (Or.inr (hw _ (List.mem_of_getElem? (i := 57) rfl))) (by decide) (t := (.object "java/math/BigInteger")) (t' := (.object "java/math/BigInteger")) (by decide) (by decide))))
  have f43 := (f39.wr W37)
  obtain ⟨T41, h41, X41, e41, W41, st41⟩ := putF X37 hx hZ hown (host := "") (Or.inl (hw _ (List.mem_of_getElem? (i := 58) rfl))) Via.refl e37 f42 f43 (Or.inr ⟨(hw _ (List.mem_of_getElem? (i := 59) rfl)), rfl, hnm⟩) (hw _ (List.mem_of_getElem? (i := 30) rfl)) (ty := (.object "java/math/BigInteger")) (by decide) rfl rfl (g := (mkF m 30 #[.val (.ref a1), .val (.ref a2), .val (.ref c_INPUT)] [.null, (.ref a1)])) rfl rfl (hb hby d6_30)
  have N41 := Fr.snoc X41 N37 g1
  have O44 := O40.wr W41 g1
  have K44 := K40.wr W41 (Or.inl (List.mem_of_getElem? (i := 0) rfl))
  have F41 := f42.same W41
  refine own_st st41 ?_
  show own_go _ _ _ _ _ _ _ (T41.setTop (mkF m 33 #[.val (.ref a1), .val (.ref a2), .val (.ref c_INPUT)] []))
  have f45 := ((F33.other W37 (Or.inr (slot_ne (Or.inr (hw _ (List.mem_of_getElem? (i := 55) rfl))) (Or.inr (hw _ (List.mem_of_getElem? (i := 57) rfl))) (by decide) (t := (.object "com/example/bridgr/bridgr/spec/Section")) (t' := (.object "java/math/BigInteger")) (by decide) (by decide)))).other W41 (Or.inr (slot_ne (Or.inr (hw _ (List.mem_of_getElem? (i := 55) rfl))) (Or.inr (hw _ (List.mem_of_getElem? (i := 59) rfl))) (by decide) (t := (.object "com/example/bridgr/bridgr/spec/Section")) (t' := (.object "java/math/BigInteger")) (by decide) (by decide))))
  exact own_ret0 X41 hx hlk hret (hb hby d6_33) (by decide) (by decide) (by rw [e41]; exact ⟨rfl, N41, K44, f45⟩)
theorem d10_0 : decode prog_30_method_6_code 0 = .ok (.aload_n 0, 1) := by decide +kernel
theorem d10_1 : decode prog_30_method_6_code 1 = .ok (.getfield 25, 3) := by decide +kernel
theorem d10_4 : decode prog_30_method_6_code 4 = .ok (.getstatic 64, 3) := by decide +kernel
theorem d10_7 : decode prog_30_method_6_code 7 = .ok (.if_acmp .ne 7, 3) := by decide +kernel
theorem d10_10 : decode prog_30_method_6_code 10 = .ok (.iconst 1, 1) := by decide +kernel
theorem d10_11 : decode prog_30_method_6_code 11 = .ok (.goto 4, 3) := by decide +kernel
theorem d10_15 : decode prog_30_method_6_code 15 = .ok (.ireturn, 1) := by decide +kernel
theorem own_pn_10 : plainFor (⟨"com/example/bridgr/bridgr/spec/Variable", "isInput", "()Z"⟩ : MethodName) = true := plainFor_of_name (show plainName "com/example/bridgr/bridgr/spec/Variable" = true by first | (simp [plainName, overriddenIn]; done) | decide +kernel)
theorem own_ef_rm_ii_0 (m : MethodId) (a1 : Addr) : entryFrame m #[(.ref a1)] 1 = mkF m 0 #[.val (.ref a1)] [] := by first | (simp [entryFrame, mkF, argsToLocals, Value.category]; done) | rfl
set_option maxRecDepth 65536 in
set_option maxHeartbeats 40000000 in
theorem rm_ii_0 (l : Launch) (Z : State) (a0 : Array Value) (hw : ∀ d ∈ tables_1, d.before a0 Z = true) (a1 : Addr) (c_OUTPUT : Addr) (c_INPUT : Addr) (z_COMPACT_STRINGS : Int32) (h0 : Heap) (n0 : Nat) (O0 : Old Z n0 h0) (hS : own_S Z c_OUTPUT c_INPUT z_COMPACT_STRINGS) (F1 : Fld Z h0 a1 "com/example/bridgr/bridgr/spec/Variable" "declaration" "Lcom/example/bridgr/bridgr/spec/Section;" (.ref c_INPUT)) :
    own_Met l Z (⟨"com/example/bridgr/bridgr/spec/Variable", "isInput", "()Z"⟩ : MethodName) prog_30_method_6_code 1 (some .boolean) [] ({ frames := 0, cells := 0, slots := 0, locals := 0 } : Room) #[(.ref a1)] h0 (fun v h L => v = some (.int (1 : Int32)) ∧ Fr n0 L ∧ h = h0) := by
  refine own_body own_pn_10 ?_
  intro p e s m below meth c s₁ hx hby hml hown hnm hret hlk X0 hZ e0
  replace hown : s.vm.findClass "com/example/bridgr/bridgr/spec/Variable" = some m.cls := hown
  have N0 := Fr.nil n0
  have K0 := Keep.refl h0 []
  refine own_st (fun _ k => castTop (own_ef_rm_ii_0 m a1) k) ?_
  show own_go _ _ _ _ _ _ _ (s₁.setTop (mkF m 0 #[.val (.ref a1)] []))
  refine own_st (fun _ k => XS.aloadN X0.here hx rfl (hb hby d10_0) rfl rfl k) ?_
  show own_go _ _ _ _ _ _ _ (s₁.setTop (mkF m 1 #[.val (.ref a1)] [(.ref a1)]))
  obtain ⟨T46, X46, e46, st46⟩ := getF X0 hx hZ hown (host := "") (Or.inl (hw _ (List.mem_of_getElem? (i := 54) rfl))) Via.refl e0 F1 (g := (mkF m 1 #[.val (.ref a1)] [(.ref a1)])) rfl rfl (hb hby d10_1)
  refine own_st st46 ?_
  show own_go _ _ _ _ _ _ _ (T46.setTop (mkF m 4 #[.val (.ref a1)] [(.ref c_INPUT)]))
  obtain ⟨T47, X47, e47, st47⟩ := getS2 X46 hx hZ hown (host := "") (Or.inl (hw _ (List.mem_of_getElem? (i := 65) rfl))) Via.refl e46 (hS.2.2.1.ext O0.2) (g := (mkF m 4 #[.val (.ref a1)] [(.ref c_INPUT)])) rfl (hb hby d10_4)
  refine own_st st47 ?_
  show own_go _ _ _ _ _ _ _ (T47.setTop (mkF m 7 #[.val (.ref a1)] [(.ref c_INPUT), (.ref c_INPUT)]))
  refine own_st (fun _ k => Jvm.RoadKit.acmp (g := (mkF m 7 #[.val (.ref a1)] [(.ref c_INPUT), (.ref c_INPUT)])) X47 hx rfl rfl rfl (pc0 := 7) (pc' := 10) (same := true) rfl (hb hby d10_7) rfl (decide_eq_true rfl) (by decide) (by decide) k) ?_
  show own_go _ _ _ _ _ _ _ (T47.setTop (mkF m 10 #[.val (.ref a1)] []))
  refine own_st (fun _ k => XS.iconst X47.here hx rfl (hb hby d10_10) k) ?_
  show own_go _ _ _ _ _ _ _ (T47.setTop (mkF m 11 #[.val (.ref a1)] [(.int (1 : Int32))]))
  refine own_st (fun _ k => XS.goto X47.here hx rfl (pc0 := 11) (pc' := 15) rfl (hb hby d10_11) (by decide) (by decide) k) ?_
  show own_go _ _ _ _ _ _ _ (T47.setTop (mkF m 15 #[.val (.ref a1)] [(.int (1 : Int32))]))
  exact own_retN X47 hx hlk (t := .boolean) hret (by simp) rfl (hb hby d10_15) (by decide) (by decide) (⟨rfl, N0, e47⟩)
theorem own_ef_rm_vi_1 (m : MethodId) (a1 : Addr) (a2 : Addr) (c_OUTPUT : Addr) : entryFrame m #[(.ref a1), (.ref a2), (.ref c_OUTPUT)] 3 = mkF m 0 #[.val (.ref a1), .val (.ref a2), .val (.ref c_OUTPUT)] [] := by first | (simp [entryFrame, mkF, argsToLocals, Value.category]; done) | rfl
set_option maxRecDepth 65536 in
set_option maxHeartbeats 40000000 in
theorem rm_vi_1 (l : Launch) (Z : State) (a0 : Array Value) (hw : ∀ d ∈ tables_1, d.before a0 Z = true) (a1 a2 : Addr) (c_OUTPUT : Addr) (c_INPUT : Addr) (z_COMPACT_STRINGS : Int32) (h0 : Heap) (n0 : Nat) (O0 : Old Z n0 h0) (g1 : n0 ≤ a1) (E1 : Exa Z h0 a1 "com/example/bridgr/bridgr/spec/Variable") (E2 : Exa Z h0 a2 "java/lang/String") (F_name : Fld Z h0 a1 "com/example/bridgr/bridgr/spec/Variable" "name" "Ljava/lang/String;" .null) (F_declaration : Fld Z h0 a1 "com/example/bridgr/bridgr/spec/Variable" "declaration" "Lcom/example/bridgr/bridgr/spec/Section;" .null) (F_lowest : Fld Z h0 a1 "com/example/bridgr/bridgr/spec/Variable" "lowest" "Ljava/math/BigInteger;" .null) (F_highest : Fld Z h0 a1 "com/example/bridgr/bridgr/spec/Variable" "highest" "Ljava/math/BigInteger;" .null) (hS : own_S Z c_OUTPUT c_INPUT z_COMPACT_STRINGS) :
    own_Met l Z (⟨"com/example/bridgr/bridgr/spec/Variable", "<init>", "(Ljava/lang/String;Lcom/example/bridgr/bridgr/spec/Section;)V"⟩ : MethodName) prog_30_method_1_code 3 none [] ({ frames := 2, cells := 0, slots := 0, locals := 30 } : Room) #[(.ref a1), (.ref a2), (.ref c_OUTPUT)] h0 (fun v h L => v = none ∧ Fr n0 L ∧ Keep h0 h [a1] ∧ Fld Z h a1 "com/example/bridgr/bridgr/spec/Variable" "declaration" "Lcom/example/bridgr/bridgr/spec/Section;" (.ref c_OUTPUT)) := by
  refine own_body own_pn_6 ?_
  intro p e s m below meth c s₁ hx hby hml hown hnm hret hlk X0 hZ e0
  replace hown : s.vm.findClass "com/example/bridgr/bridgr/spec/Variable" = some m.cls := hown
  have N0 := Fr.nil n0
  have K0 := Keep.refl h0 [a1]
  refine own_st (fun _ k => castTop (own_ef_rm_vi_1 m a1 a2 c_OUTPUT) k) ?_
  show own_go _ _ _ _ _ _ _ (s₁.setTop (mkF m 0 #[.val (.ref a1), .val (.ref a2), .val (.ref c_OUTPUT)] []))
  refine own_st (fun _ k => XS.aloadN X0.here hx rfl (hb hby d6_0) rfl rfl k) ?_
  show own_go _ _ _ _ _ _ _ (s₁.setTop (mkF m 1 #[.val (.ref a1), .val (.ref a2), .val (.ref c_OUTPUT)] [(.ref a1)]))
  obtain ⟨T49, X49, e49, st49⟩ := initO X0 hx hZ hown (hw _ (List.mem_of_getElem? (i := 35) rfl)) (hw _ (List.mem_of_getElem? (i := 23) rfl)) (hw _ (List.mem_of_getElem? (i := 24) rfl)) e0 (g := (mkF m 1 #[.val (.ref a1), .val (.ref a2), .val (.ref c_OUTPUT)] [(.ref a1)])) rfl (by rw [hml]; rfl) rfl (hb hby d6_1) (by decide) (W := 0) (by show 2 * 0 + _ ≤ _; exact Nat.le_of_eq rfl) (by decide)
  refine own_st st49 ?_
  show own_go _ _ _ _ _ _ _ (T49.setTop (mkF m 4 #[.val (.ref a1), .val (.ref a2), .val (.ref c_OUTPUT)] []))
  refine own_st (fun _ k => XS.aloadN X49.here hx rfl (hb hby d6_4) rfl rfl k) ?_
  show own_go _ _ _ _ _ _ _ (T49.setTop (mkF m 5 #[.val (.ref a1), .val (.ref a2), .val (.ref c_OUTPUT)] [(.ref a1)]))
  refine own_st (fun _ k => XS.aloadN X49.here hx rfl (hb hby d6_5) rfl rfl k) ?_
  show own_go _ _ _ _ _ _ _ (T49.setTop (mkF m 6 #[.val (.ref a1), .val (.ref a2), .val (.ref c_OUTPUT)] [(.ref a2), (.ref a1)]))
  obtain ⟨v50, T50, L50, X50, hQ50, st50⟩ := own_callS X49 hx hZ (argsL := [(.ref a2)]) (rest := [(.ref a1)]) (rmo_req l Z a0 hw a2 h0 n0 O0) hown (hw _ (List.mem_of_getElem? (i := 36) rfl)) (hw _ (List.mem_of_getElem? (i := 37) rfl)) (hw _ (List.mem_of_getElem? (i := 38) rfl)) (hw _ (List.mem_of_getElem? (i := 39) rfl)) (by decide) e49 (g := (mkF m 6 #[.val (.ref a1), .val (.ref a2), .val (.ref c_OUTPUT)] [(.ref a2), (.ref a1)])) rfl (by rw [hml]; rfl) (lenOf own_pd__28Ljava_2flang_2fObject_3b_29Ljava_2flang_2fObject_3b rfl) rfl (W := 1) (by show 2 * 0 + _ ≤ _; exact Nat.le_of_eq rfl) (hb hby d6_6) (by decide) (by decide) (by decide) (by decide)
  obtain ⟨rfl, Nq50, eq50⟩ := hQ50
  have N50 := Fr.app N0 Nq50
  refine own_st st50 ?_
  show own_go _ _ _ _ _ _ _ (T50.setTop (mkF m 9 #[.val (.ref a1), .val (.ref a2), .val (.ref c_OUTPUT)] [(.ref a2), (.ref a1)]))
  obtain ⟨T51, X51, e51, st51⟩ := castY X50 hx hZ hown (hw _ (List.mem_of_getElem? (i := 40) rfl)) eq50 (Ins.self E2) (g := (mkF m 9 #[.val (.ref a1), .val (.ref a2), .val (.ref c_OUTPUT)] [(.ref a2), (.ref a1)])) rfl rfl (hb hby d6_9)
  refine own_st st51 ?_
  show own_go _ _ _ _ _ _ _ (T51.setTop (mkF m 12 #[.val (.ref a1), .val (.ref a2), .val (.ref c_OUTPUT)] [(.ref a2), (.ref a1)]))
  obtain ⟨T52, h52, X52, e52, W52, st52⟩ := putF X51 hx hZ hown (host := "") (Or.inl (hw _ (List.mem_of_getElem? (i := 41) rfl))) Via.refl e51 F_name E1 (Or.inr ⟨(hw _ (List.mem_of_getElem? (i := 42) rfl)), rfl, hnm⟩) (hw _ (List.mem_of_getElem? (i := 30) rfl)) (ty := (.object "java/lang/String")) (by decide) rfl rfl (g := (mkF m 12 #[.val (.ref a1), .val (.ref a2), .val (.ref c_OUTPUT)] [(.ref a2), (.ref a1)])) rfl rfl (hb hby d6_12)
  have N52 := Fr.snoc X52 N50 g1
  have O53 := O0.wr W52 g1
  have K53 := K0.wr W52 (Or.inl (List.mem_of_getElem? (i := 0) rfl))
  have F52 := F_name.same W52
  refine own_st st52 ?_
  show own_go _ _ _ _ _ _ _ (T52.setTop (mkF m 15 #[.val (.ref a1), .val (.ref a2), .val (.ref c_OUTPUT)] []))
  refine own_st (fun _ k => XS.aloadN X52.here hx rfl (hb hby d6_15) rfl rfl k) ?_
  show own_go _ _ _ _ _ _ _ (T52.setTop (mkF m 16 #[.val (.ref a1), .val (.ref a2), .val (.ref c_OUTPUT)] [(.ref a1)]))
  refine own_st (fun _ k => XS.aloadN X52.here hx rfl (hb hby d6_16) rfl rfl k) ?_
  show own_go _ _ _ _ _ _ _ (T52.setTop (mkF m 17 #[.val (.ref a1), .val (.ref a2), .val (.ref c_OUTPUT)] [(.ref c_OUTPUT), (.ref a1)]))
  obtain ⟨v54, T54, L54, X54, hQ54, st54⟩ := own_callS X52 hx hZ (argsL := [(.ref c_OUTPUT)]) (rest := [(.ref a1)]) (rm_cd_1 l Z a0 hw c_OUTPUT c_INPUT z_COMPACT_STRINGS h52 n0 O53 hS) hown (hw _ (List.mem_of_getElem? (i := 43) rfl)) (hw _ (List.mem_of_getElem? (i := 44) rfl)) (hw _ (List.mem_of_getElem? (i := 31) rfl)) (hw _ (List.mem_of_getElem? (i := 45) rfl)) (by decide) e52 (g := (mkF m 17 #[.val (.ref a1), .val (.ref a2), .val (.ref c_OUTPUT)] [(.ref c_OUTPUT), (.ref a1)])) rfl (by rw [hml]; rfl) (lenOf own_pd__28Lcom_2fexample_2fbridgr_2fbridgr_2fspec_2fSection_3b_29Lcom_2fexample_2fbridgr_2fbridgr_2fspec_2fSection_3b rfl) rfl (W := 1) (by show 2 * 0 + _ ≤ _; exact Nat.le_of_eq rfl) (hb hby d6_17) (by decide) (by decide) (by decide) (by decide)
  obtain ⟨rfl, Nq54, eq54⟩ := hQ54
  have N54 := Fr.app N52 Nq54
  refine own_st st54 ?_
  show own_go _ _ _ _ _ _ _ (T54.setTop (mkF m 20 #[.val (.ref a1), .val (.ref a2), .val (.ref c_OUTPUT)] [(.ref c_OUTPUT), (.ref a1)]))
  have f56 := (F_declaration.other W52 (Or.inr (slot_ne (Or.inr (hw _ (List.mem_of_getElem? (i := 55) rfl))) (Or.inr (hw _ (List.mem_of_getElem? (i := 42) rfl))) (by decide) (t := (.object "com/example/bridgr/bridgr/spec/Section")) (t' := (.object "java/lang/String")) (by decide) (by decide))))
  have f57 := (E1.wr W52)
  obtain ⟨T55, h55, X55, e55, W55, st55⟩ := putF X54 hx hZ hown (host := "") (Or.inl (hw _ (List.mem_of_getElem? (i := 54) rfl))) Via.refl eq54 f56 f57 (Or.inr ⟨(hw _ (List.mem_of_getElem? (i := 55) rfl)), rfl, hnm⟩) (hw _ (List.mem_of_getElem? (i := 30) rfl)) (ty := (.object "com/example/bridgr/bridgr/spec/Section")) (by decide) rfl rfl (g := (mkF m 20 #[.val (.ref a1), .val (.ref a2), .val (.ref c_OUTPUT)] [(.ref c_OUTPUT), (.ref a1)])) rfl rfl (hb hby d6_20)
  have N55 := Fr.snoc X55 N54 g1
  have O58 := O53.wr W55 g1
  have K58 := K53.wr W55 (Or.inl (List.mem_of_getElem? (i := 0) rfl))
  have F55 := f56.same W55
  refine own_st st55 ?_
  show own_go _ _ _ _ _ _ _ (T55.setTop (mkF m 23 #[.val (.ref a1), .val (.ref a2), .val (.ref c_OUTPUT)] []))
  refine own_st (fun _ k => XS.aloadN X55.here hx rfl (hb hby d6_23) rfl rfl k) ?_
  show own_go _ _ _ _ _ _ _ (T55.setTop (mkF m 24 #[.val (.ref a1), .val (.ref a2), .val (.ref c_OUTPUT)] [(.ref a1)]))
  refine own_st (fun _ k => XS.aconstNull X55.here hx rfl (hb hby d6_24) k) ?_
  show own_go _ _ _ _ _ _ _ (T55.setTop (mkF m 25 #[.val (.ref a1), .val (.ref a2), .val (.ref c_OUTPUT)] [.null, (.ref a1)]))
  have f60 := ((F_lowest.other W52 (Or.inr (slot_ne (Or.inr (hw _ (List.mem_of_getElem? (i := 57) rfl))) (Or.inr (hw _ (List.mem_of_getElem? (i := 42) rfl))) (by decide) (t := (.object "java/math/BigInteger")) (t' := (.object "java/lang/String")) (by decide) (by decide)))).other W55 (Or.inr (slot_ne (Or.inr (hw _ (List.mem_of_getElem? (i := 57) rfl))) (Or.inr (hw _ (List.mem_of_getElem? (i := 55) rfl))) (by decide) (t := (.object "java/math/BigInteger")) (t' := (.object "com/example/bridgr/bridgr/spec/Section")) (by decide) (by decide))))
  have f61 := (f57.wr W55)
  obtain ⟨T59, h59, X59, e59, W59, st59⟩ := putF X55 hx hZ hown (host := "") (Or.inl (hw _ (List.mem_of_getElem? (i := 56) rfl))) Via.refl e55 f60 f61 (Or.inr ⟨(hw _ (List.mem_of_getElem? (i := 57) rfl)), rfl, hnm⟩) (hw _ (List.mem_of_getElem? (i := 30) rfl)) (ty := (.object "java/math/BigInteger")) (by decide) rfl rfl (g := (mkF m 25 #[.val (.ref a1), .val (.ref a2), .val (.ref c_OUTPUT)] [.null, (.ref a1)])) rfl rfl (hb hby d6_25)
  have N59 := Fr.snoc X59 N55 g1
  have O62 := O58.wr W59 g1
  have K62 := K58.wr W59 (Or.inl (List.mem_of_getElem? (i := 0) rfl))
  have F59 := f60.same W59
  refine own_st st59 ?_
  show own_go _ _ _ _ _ _ _ (T59.setTop (mkF m 28 #[.val (.ref a1), .val (.ref a2), .val (.ref c_OUTPUT)] []))
  refine own_st (fun _ k => XS.aloadN X59.here hx rfl (hb hby d6_28) rfl rfl k) ?_
  show own_go _ _ _ _ _ _ _ (T59.setTop (mkF m 29 #[.val (.ref a1), .val (.ref a2), .val (.ref c_OUTPUT)] [(.ref a1)]))
  refine own_st (fun _ k => XS.aconstNull X59.here hx rfl (hb hby d6_29) k) ?_
  show own_go _ _ _ _ _ _ _ (T59.setTop (mkF m 30 #[.val (.ref a1), .val (.ref a2), .val (.ref c_OUTPUT)] [.null, (.ref a1)]))
  have f64 := (((F_highest.other W52 (Or.inr (slot_ne (Or.inr (hw _ (List.mem_of_getElem? (i := 59) rfl))) (Or.inr (hw _ (List.mem_of_getElem? (i := 42) rfl))) (by decide) (t := (.object "java/math/BigInteger")) (t' := (.object "java/lang/String")) (by decide) (by decide)))).other W55 (Or.inr (slot_ne (Or.inr (hw _ (List.mem_of_getElem? (i := 59) rfl))) (Or.inr (hw _ (List.mem_of_getElem? (i := 55) rfl))) (by decide) (t := (.object "java/math/BigInteger")) (t' := (.object "com/example/bridgr/bridgr/spec/Section")) (by decide) (by decide)))).other W59 (Or.inr (slot_ne (Or.inr (hw _ (List.mem_of_getElem? (i := 59) rfl))) (Or.inr (hw _ (List.mem_of_getElem? (i := 57) rfl))) (by decide) (t := (.object "java/math/BigInteger")) (t' := (.object "java/math/BigInteger")) (by decide) (by decide))))
  have f65 := (f61.wr W59)
  obtain ⟨T63, h63, X63, e63, W63, st63⟩ := putF X59 hx hZ hown (host := "") (Or.inl (hw _ (List.mem_of_getElem? (i := 58) rfl))) Via.refl e59 f64 f65 (Or.inr ⟨(hw _ (List.mem_of_getElem? (i := 59) rfl)), rfl, hnm⟩) (hw _ (List.mem_of_getElem? (i := 30) rfl)) (ty := (.object "java/math/BigInteger")) (by decide) rfl rfl (g := (mkF m 30 #[.val (.ref a1), .val (.ref a2), .val (.ref c_OUTPUT)] [.null, (.ref a1)])) rfl rfl (hb hby d6_30)
  have N63 := Fr.snoc X63 N59 g1
  have O66 := O62.wr W63 g1
  have K66 := K62.wr W63 (Or.inl (List.mem_of_getElem? (i := 0) rfl))
  have F63 := f64.same W63
  refine own_st st63 ?_
  show own_go _ _ _ _ _ _ _ (T63.setTop (mkF m 33 #[.val (.ref a1), .val (.ref a2), .val (.ref c_OUTPUT)] []))
  have f67 := ((F55.other W59 (Or.inr (slot_ne (Or.inr (hw _ (List.mem_of_getElem? (i := 55) rfl))) (Or.inr (hw _ (List.mem_of_getElem? (i := 57) rfl))) (by decide) (t := (.object "com/example/bridgr/bridgr/spec/Section")) (t' := (.object "java/math/BigInteger")) (by decide) (by decide)))).other W63 (Or.inr (slot_ne (Or.inr (hw _ (List.mem_of_getElem? (i := 55) rfl))) (Or.inr (hw _ (List.mem_of_getElem? (i := 59) rfl))) (by decide) (t := (.object "com/example/bridgr/bridgr/spec/Section")) (t' := (.object "java/math/BigInteger")) (by decide) (by decide))))
  exact own_ret0 X63 hx hlk hret (hb hby d6_33) (by decide) (by decide) (by rw [e63]; exact ⟨rfl, N63, K66, f67⟩)
theorem d10_14 : decode prog_30_method_6_code 14 = .ok (.iconst 0, 1) := by decide +kernel
theorem own_ef_rm_ii_1 (m : MethodId) (a1 : Addr) : entryFrame m #[(.ref a1)] 1 = mkF m 0 #[.val (.ref a1)] [] := by first | (simp [entryFrame, mkF, argsToLocals, Value.category]; done) | rfl
set_option maxRecDepth 65536 in
set_option maxHeartbeats 40000000 in
theorem rm_ii_1 (l : Launch) (Z : State) (a0 : Array Value) (hw : ∀ d ∈ tables_1, d.before a0 Z = true) (a1 : Addr) (c_OUTPUT : Addr) (c_INPUT : Addr) (z_COMPACT_STRINGS : Int32) (h0 : Heap) (n0 : Nat) (O0 : Old Z n0 h0) (hS : own_S Z c_OUTPUT c_INPUT z_COMPACT_STRINGS) (F1 : Fld Z h0 a1 "com/example/bridgr/bridgr/spec/Variable" "declaration" "Lcom/example/bridgr/bridgr/spec/Section;" (.ref c_OUTPUT)) :
    own_Met l Z (⟨"com/example/bridgr/bridgr/spec/Variable", "isInput", "()Z"⟩ : MethodName) prog_30_method_6_code 1 (some .boolean) [] ({ frames := 0, cells := 0, slots := 0, locals := 0 } : Room) #[(.ref a1)] h0 (fun v h L => v = some (.int (0 : Int32)) ∧ Fr n0 L ∧ h = h0) := by
  refine own_body own_pn_10 ?_
  intro p e s m below meth c s₁ hx hby hml hown hnm hret hlk X0 hZ e0
  replace hown : s.vm.findClass "com/example/bridgr/bridgr/spec/Variable" = some m.cls := hown
  have N0 := Fr.nil n0
  have K0 := Keep.refl h0 []
  refine own_st (fun _ k => castTop (own_ef_rm_ii_1 m a1) k) ?_
  show own_go _ _ _ _ _ _ _ (s₁.setTop (mkF m 0 #[.val (.ref a1)] []))
  refine own_st (fun _ k => XS.aloadN X0.here hx rfl (hb hby d10_0) rfl rfl k) ?_
  show own_go _ _ _ _ _ _ _ (s₁.setTop (mkF m 1 #[.val (.ref a1)] [(.ref a1)]))
  obtain ⟨T68, X68, e68, st68⟩ := getF X0 hx hZ hown (host := "") (Or.inl (hw _ (List.mem_of_getElem? (i := 54) rfl))) Via.refl e0 F1 (g := (mkF m 1 #[.val (.ref a1)] [(.ref a1)])) rfl rfl (hb hby d10_1)
  refine own_st st68 ?_
  show own_go _ _ _ _ _ _ _ (T68.setTop (mkF m 4 #[.val (.ref a1)] [(.ref c_OUTPUT)]))
  obtain ⟨T69, X69, e69, st69⟩ := getS2 X68 hx hZ hown (host := "") (Or.inl (hw _ (List.mem_of_getElem? (i := 65) rfl))) Via.refl e68 (hS.2.2.1.ext O0.2) (g := (mkF m 4 #[.val (.ref a1)] [(.ref c_OUTPUT)])) rfl (hb hby d10_4)
  refine own_st st69 ?_
  show own_go _ _ _ _ _ _ _ (T69.setTop (mkF m 7 #[.val (.ref a1)] [(.ref c_INPUT), (.ref c_OUTPUT)]))
  refine own_st (fun _ k => Jvm.RoadKit.acmp (g := (mkF m 7 #[.val (.ref a1)] [(.ref c_INPUT), (.ref c_OUTPUT)])) X69 hx rfl rfl rfl (pc0 := 7) (pc' := 14) (same := false) rfl (hb hby d10_7) rfl (decide_eq_false fun q => (own_ne hS.2.2.2.2.1 hS.2.2.2.2.2.1 (by decide)) (Value.ref.inj q)) (by decide) (by decide) k) ?_
  show own_go _ _ _ _ _ _ _ (T69.setTop (mkF m 14 #[.val (.ref a1)] []))
  refine own_st (fun _ k => XS.iconst X69.here hx rfl (hb hby d10_14) k) ?_
  show own_go _ _ _ _ _ _ _ (T69.setTop (mkF m 15 #[.val (.ref a1)] [(.int (0 : Int32))]))
  exact own_retN X69 hx hlk (t := .boolean) hret (by simp) rfl (hb hby d10_15) (by decide) (by decide) (⟨rfl, N0, e69⟩)
theorem d11_0 : decode prog_30_method_5_code 0 = .ok (.aload_n 0, 1) := by decide +kernel
theorem d11_1 : decode prog_30_method_5_code 1 = .ok (.getfield 25, 3) := by decide +kernel
theorem d11_4 : decode prog_30_method_5_code 4 = .ok (.areturn, 1) := by decide +kernel
theorem own_pn_11 : plainFor (⟨"com/example/bridgr/bridgr/spec/Variable", "declaration", "()Lcom/example/bridgr/bridgr/spec/Section;"⟩ : MethodName) = true := plainFor_of_name (show plainName "com/example/bridgr/bridgr/spec/Variable" = true by first | (simp [plainName, overriddenIn]; done) | decide +kernel)
theorem own_ef_rm_de (m : MethodId) (a1 : Addr) : entryFrame m #[(.ref a1)] 1 = mkF m 0 #[.val (.ref a1)] [] := by first | (simp [entryFrame, mkF, argsToLocals, Value.category]; done) | rfl
set_option maxRecDepth 65536 in
set_option maxHeartbeats 40000000 in
theorem rm_de (l : Launch) (Z : State) (a0 : Array Value) (hw : ∀ d ∈ tables_1, d.before a0 Z = true) (a1 a2 : Addr) (h0 : Heap) (n0 : Nat) (O0 : Old Z n0 h0) (F1 : Fld Z h0 a1 "com/example/bridgr/bridgr/spec/Variable" "declaration" "Lcom/example/bridgr/bridgr/spec/Section;" (.ref a2)) :
    own_Met l Z (⟨"com/example/bridgr/bridgr/spec/Variable", "declaration", "()Lcom/example/bridgr/bridgr/spec/Section;"⟩ : MethodName) prog_30_method_5_code 1 (some (.object "com/example/bridgr/bridgr/spec/Section")) [] ({ frames := 0, cells := 0, slots := 0, locals := 0 } : Room) #[(.ref a1)] h0 (fun v h L => v = some (.ref a2) ∧ Fr n0 L ∧ h = h0) := by
  refine own_body own_pn_11 ?_
  intro p e s m below meth c s₁ hx hby hml hown hnm hret hlk X0 hZ e0
  replace hown : s.vm.findClass "com/example/bridgr/bridgr/spec/Variable" = some m.cls := hown
  have N0 := Fr.nil n0
  have K0 := Keep.refl h0 []
  refine own_st (fun _ k => castTop (own_ef_rm_de m a1) k) ?_
  show own_go _ _ _ _ _ _ _ (s₁.setTop (mkF m 0 #[.val (.ref a1)] []))
  refine own_st (fun _ k => XS.aloadN X0.here hx rfl (hb hby d11_0) rfl rfl k) ?_
  show own_go _ _ _ _ _ _ _ (s₁.setTop (mkF m 1 #[.val (.ref a1)] [(.ref a1)]))
  obtain ⟨T70, X70, e70, st70⟩ := getF X0 hx hZ hown (host := "") (Or.inl (hw _ (List.mem_of_getElem? (i := 54) rfl))) Via.refl e0 F1 (g := (mkF m 1 #[.val (.ref a1)] [(.ref a1)])) rfl rfl (hb hby d11_1)
  refine own_st st70 ?_
  show own_go _ _ _ _ _ _ _ (T70.setTop (mkF m 4 #[.val (.ref a1)] [(.ref a2)]))
  exact own_retA X70 hx hlk hret rfl rfl (hb hby d11_4) (by decide) (by decide) (⟨rfl, N0, e70⟩)
theorem own_pn_0 : plainFor x = true := plainFor_of_name (show plainName "com/example/bridgr/bridgr/spec/VariableIsInputPinLaw" = true by first | (simp [plainName, overriddenIn]; done) | decide +kernel)
theorem own_pd__28C_29Ljava_2flang_2fString_3b : parseMethodDescriptor "(C)Ljava/lang/String;" = some ⟨[.char], some (.object "java/lang/String")⟩ := by decide +kernel
theorem own_pd__28Ljava_2flang_2fString_3bLcom_2fexample_2fbridgr_2fbridgr_2fspec_2fSection_3b_29V : parseMethodDescriptor "(Ljava/lang/String;Lcom/example/bridgr/bridgr/spec/Section;)V" = some ⟨[(.object "java/lang/String"), (.object "com/example/bridgr/bridgr/spec/Section")], none⟩ := by decide +kernel
theorem own_pd__28_29Lcom_2fexample_2fbridgr_2fbridgr_2fspec_2fSection_3b : parseMethodDescriptor "()Lcom/example/bridgr/bridgr/spec/Section;" = some ⟨[], some (.object "com/example/bridgr/bridgr/spec/Section")⟩ := by decide +kernel
theorem own_pd__28_5bC_29V : parseMethodDescriptor "([C)V" = some ⟨[(.array .char)], none⟩ := by decide +kernel
theorem own_ef_rm0 (m : MethodId) (p0 : Int32) (p1 : Int32) (p2 : Int32) : entryFrame m #[(.int p0), (.int p1), (.int p2)] maxLocals = mkF m 0 #[.val (.int p0), .val (.int p1), .val (.int p2), .unset, .unset, .unset, .unset, .unset, .unset] [] := by first | (simp [entryFrame, mkF, argsToLocals, Value.category, maxLocals]; done) | rfl
set_option maxRecDepth 65536 in
set_option maxHeartbeats 40000000 in
theorem rm0 (l : Launch) (Z : State) (a0 : Array Value) (hw : ∀ d ∈ tables_1, d.before a0 Z = true) (ws : List Jvm.Cond) (p0 p1 p2 : Int32) (c_OUTPUT : Addr) (c_INPUT : Addr) (z_COMPACT_STRINGS : Int32) (h0 : Heap) (n0 : Nat) (O0 : Old Z n0 h0) (hS : own_S Z c_OUTPUT c_INPUT z_COMPACT_STRINGS) :
    own_Met l Z x code maxLocals ret ws room_1 #[(.int p0), (.int p1), (.int p2)] h0 (fun v h L => v = some (.int 1) ∧ Fr n0 L) := by
  refine own_body own_pn_0 ?_
  intro p e s m below meth c s₁ hx hby hml hown hnm hret hlk X0 hZ e0
  replace hown : s.vm.findClass "com/example/bridgr/bridgr/spec/VariableIsInputPinLaw" = some m.cls := hown
  have N0 := Fr.nil n0
  have K0 := Keep.refl h0 []
  refine own_st (fun _ k => castTop (own_ef_rm0 m p0 p1 p2) k) ?_
  show own_go _ _ _ _ _ _ _ (s₁.setTop (mkF m 0 #[.val (.int p0), .val (.int p1), .val (.int p2), .unset, .unset, .unset, .unset, .unset, .unset] []))
  refine own_st (fun _ k => XS.iloadN X0.here hx rfl (hb hby at_0) rfl k) ?_
  show own_go _ _ _ _ _ _ _ (s₁.setTop (mkF m 1 #[.val (.int p0), .val (.int p1), .val (.int p2), .unset, .unset, .unset, .unset, .unset, .unset] [(.int p0)]))
  refine own_st (fun _ k => XS.iconst X0.here hx rfl (hb hby at_1) k) ?_
  show own_go _ _ _ _ _ _ _ (s₁.setTop (mkF m 2 #[.val (.int p0), .val (.int p1), .val (.int p2), .unset, .unset, .unset, .unset, .unset, .unset] [(.int (1 : Int32)), (.int p0)]))
  refine own_st (fun _ k => XS.iand X0.here hx rfl (hb hby at_2) rfl k) ?_
  show own_go _ _ _ _ _ _ _ (s₁.setTop (mkF m 3 #[.val (.int p0), .val (.int p1), .val (.int p2), .unset, .unset, .unset, .unset, .unset, .unset] [(.int (p0 &&& (1 : Int32)))]))
  by_cases hc71 : (p0 &&& (1 : Int32)) = (0 : Int32)
  · skip
    refine own_st (fun _ k => XS.ifYes X0.here hx rfl (pc0 := 3) (pc' := 10) rfl (hb hby at_3) rfl (XT.i0_eq_t hc71) (by decide) (by decide) k) ?_
    show own_go _ _ _ _ _ _ _ (s₁.setTop (mkF m 10 #[.val (.int p0), .val (.int p1), .val (.int p2), .unset, .unset, .unset, .unset, .unset, .unset] []))
    refine own_st (fun _ k => XS.iconst X0.here hx rfl (hb hby at_10) k) ?_
    show own_go _ _ _ _ _ _ _ (s₁.setTop (mkF m 11 #[.val (.int p0), .val (.int p1), .val (.int p2), .unset, .unset, .unset, .unset, .unset, .unset] [(.int (0 : Int32))]))
    refine own_st (fun _ k => XS.istoreN X0.here hx rfl (hb hby at_11) rfl (l' := #[.val (.int p0), .val (.int p1), .val (.int p2), .val (.int (0 : Int32)), .unset, .unset, .unset, .unset, .unset]) rfl k) ?_
    show own_go _ _ _ _ _ _ _ (s₁.setTop (mkF m 12 #[.val (.int p0), .val (.int p1), .val (.int p2), .val (.int (0 : Int32)), .unset, .unset, .unset, .unset, .unset] []))
    refine own_st (fun _ k => XS.iloadN X0.here hx rfl (hb hby at_12) rfl k) ?_
    show own_go _ _ _ _ _ _ _ (s₁.setTop (mkF m 13 #[.val (.int p0), .val (.int p1), .val (.int p2), .val (.int (0 : Int32)), .unset, .unset, .unset, .unset, .unset] [(.int (0 : Int32))]))
    refine own_st (fun _ k => XS.ifYes X0.here hx rfl (pc0 := 13) (pc' := 22) rfl (hb hby at_13) rfl (by decide) (by decide) (by decide) k) ?_
    show own_go _ _ _ _ _ _ _ (s₁.setTop (mkF m 22 #[.val (.int p0), .val (.int p1), .val (.int p2), .val (.int (0 : Int32)), .unset, .unset, .unset, .unset, .unset] []))
    obtain ⟨T72, X72, e72, st72⟩ := getS2 X0 hx hZ hown (host := "") (Or.inl (hw _ (List.mem_of_getElem? (i := 0) rfl))) Via.refl e0 (hS.1.ext O0.2) (g := (mkF m 22 #[.val (.int p0), .val (.int p1), .val (.int p2), .val (.int (0 : Int32)), .unset, .unset, .unset, .unset, .unset] [])) rfl (hb hby at_22)
    refine own_st st72 ?_
    show own_go _ _ _ _ _ _ _ (T72.setTop (mkF m 25 #[.val (.int p0), .val (.int p1), .val (.int p2), .val (.int (0 : Int32)), .unset, .unset, .unset, .unset, .unset] [(.ref c_OUTPUT)]))
    refine own_st (fun _ k => XS.astore X72.here hx rfl (hb hby at_25) rfl rfl (l' := #[.val (.int p0), .val (.int p1), .val (.int p2), .val (.int (0 : Int32)), .val (.ref c_OUTPUT), .unset, .unset, .unset, .unset]) rfl k) ?_
    show own_go _ _ _ _ _ _ _ (T72.setTop (mkF m 27 #[.val (.int p0), .val (.int p1), .val (.int p2), .val (.int (0 : Int32)), .val (.ref c_OUTPUT), .unset, .unset, .unset, .unset] []))
    refine own_st (fun _ k => XS.iloadN X72.here hx rfl (hb hby at_27) rfl k) ?_
    show own_go _ _ _ _ _ _ _ (T72.setTop (mkF m 28 #[.val (.int p0), .val (.int p1), .val (.int p2), .val (.int (0 : Int32)), .val (.ref c_OUTPUT), .unset, .unset, .unset, .unset] [(.int p0)]))
    refine own_st (fun _ k => XS.iconst X72.here hx rfl (hb hby at_28) k) ?_
    show own_go _ _ _ _ _ _ _ (T72.setTop (mkF m 29 #[.val (.int p0), .val (.int p1), .val (.int p2), .val (.int (0 : Int32)), .val (.ref c_OUTPUT), .unset, .unset, .unset, .unset] [(.int (2 : Int32)), (.int p0)]))
    refine own_st (fun _ k => XS.iand X72.here hx rfl (hb hby at_29) rfl k) ?_
    show own_go _ _ _ _ _ _ _ (T72.setTop (mkF m 30 #[.val (.int p0), .val (.int p1), .val (.int p2), .val (.int (0 : Int32)), .val (.ref c_OUTPUT), .unset, .unset, .unset, .unset] [(.int (p0 &&& (2 : Int32)))]))
    by_cases hc73 : (p0 &&& (2 : Int32)) = (0 : Int32)
    · skip
      refine own_st (fun _ k => XS.ifYes X72.here hx rfl (pc0 := 30) (pc' := 66) rfl (hb hby at_30) rfl (XT.i0_eq_t hc73) (by decide) (by decide) k) ?_
      show own_go _ _ _ _ _ _ _ (T72.setTop (mkF m 66 #[.val (.int p0), .val (.int p1), .val (.int p2), .val (.int (0 : Int32)), .val (.ref c_OUTPUT), .unset, .unset, .unset, .unset] []))
      refine own_st (fun _ k => XS.iloadN X72.here hx rfl (hb hby at_66) rfl k) ?_
      show own_go _ _ _ _ _ _ _ (T72.setTop (mkF m 67 #[.val (.int p0), .val (.int p1), .val (.int p2), .val (.int (0 : Int32)), .val (.ref c_OUTPUT), .unset, .unset, .unset, .unset] [(.int p1)]))
      refine own_st (fun _ k => XS.sipush X72.here hx rfl (hb hby at_67) k) ?_
      show own_go _ _ _ _ _ _ _ (T72.setTop (mkF m 70 #[.val (.int p0), .val (.int p1), .val (.int p2), .val (.int (0 : Int32)), .val (.ref c_OUTPUT), .unset, .unset, .unset, .unset] [(.int (255 : Int32)), (.int p1)]))
      refine own_st (fun _ k => XS.iand X72.here hx rfl (hb hby at_70) rfl k) ?_
      show own_go _ _ _ _ _ _ _ (T72.setTop (mkF m 71 #[.val (.int p0), .val (.int p1), .val (.int p2), .val (.int (0 : Int32)), .val (.ref c_OUTPUT), .unset, .unset, .unset, .unset] [(.int (p1 &&& (255 : Int32)))]))
      refine own_st (fun _ k => XS.i2c X72.here hx rfl (hb hby at_71) rfl k) ?_
      show own_go _ _ _ _ _ _ _ (T72.setTop (mkF m 72 #[.val (.int p0), .val (.int p1), .val (.int p2), .val (.int (0 : Int32)), .val (.ref c_OUTPUT), .unset, .unset, .unset, .unset] [(.int ((p1 &&& (255 : Int32)).toUInt32.toUInt16.toUInt32.toInt32))]))
      rw [i2c_mask]
      show own_go _ _ _ _ _ _ _ (T72.setTop (mkF m 72 #[.val (.int p0), .val (.int p1), .val (.int p2), .val (.int (0 : Int32)), .val (.ref c_OUTPUT), .unset, .unset, .unset, .unset] [(.int (p1 &&& (255 : Int32)))]))
      obtain ⟨v74, T74, L74, X74, hQ74, st74⟩ := own_callS X72 hx hZ (argsL := [(.int (p1 &&& (255 : Int32)))]) (rest := []) (rm_valueOf l Z a0 hw (p1 &&& (255 : Int32)) c_OUTPUT c_INPUT z_COMPACT_STRINGS h0 n0 O0 hS (own_255 _)) hown (hw _ (List.mem_of_getElem? (i := 3) rfl)) (hw _ (List.mem_of_getElem? (i := 4) rfl)) (hw _ (List.mem_of_getElem? (i := 5) rfl)) (hw _ (List.mem_of_getElem? (i := 6) rfl)) (by decide) e72 (g := (mkF m 72 #[.val (.int p0), .val (.int p1), .val (.int p2), .val (.int (0 : Int32)), .val (.ref c_OUTPUT), .unset, .unset, .unset, .unset] [(.int (p1 &&& (255 : Int32)))])) rfl (by rw [hml]; rfl) (lenOf own_pd__28C_29Ljava_2flang_2fString_3b rfl) rfl (W := 0) (by show 2 * 0 + _ ≤ _; exact Nat.le_of_eq rfl) (hb hby at_72) (by decide) (by decide) (by decide) (by decide)
      obtain ⟨r74, rfl, Nq74, Kq74, sz74, A74⟩ := hQ74
      have N74 := Fr.app N0 Nq74
      have O74 := O0.keep Kq74 all0
      have K74 := K0.trans Kq74 all0
      refine own_st st74 ?_
      show own_go _ _ _ _ _ _ _ (T74.setTop (mkF m 75 #[.val (.int p0), .val (.int p1), .val (.int p2), .val (.int (0 : Int32)), .val (.ref c_OUTPUT), .unset, .unset, .unset, .unset] [(.ref r74)]))
      refine own_st (fun _ k => XS.astore X74.here hx rfl (hb hby at_75) rfl rfl (l' := #[.val (.int p0), .val (.int p1), .val (.int p2), .val (.int (0 : Int32)), .val (.ref c_OUTPUT), .val (.ref r74), .unset, .unset, .unset]) rfl k) ?_
      show own_go _ _ _ _ _ _ _ (T74.setTop (mkF m 77 #[.val (.int p0), .val (.int p1), .val (.int p2), .val (.int (0 : Int32)), .val (.ref c_OUTPUT), .val (.ref r74), .unset, .unset, .unset] []))
      obtain ⟨T75, h75, X75, e75, E75, A75, D75, -, st75⟩ := newO X74 hx hZ hown (hw _ (List.mem_of_getElem? (i := 29) rfl)) (hw _ (List.mem_of_getElem? (i := 30) rfl)) (hw _ (List.mem_of_getElem? (i := 31) rfl)) rfl (g := (mkF m 77 #[.val (.int p0), .val (.int p1), .val (.int p2), .val (.int (0 : Int32)), .val (.ref c_OUTPUT), .val (.ref r74), .unset, .unset, .unset] [])) rfl (hb hby at_77) (by decide) (by decide)
      obtain ⟨b75, g75⟩ : ∃ z, z = T74.heap.size := ⟨_, rfl⟩
      rw [← g75] at A75 D75 st75
      have ge_b75 : n0 ≤ b75 := by rw [g75]; exact own_osz O74
      have sz_b75 : h0.size ≤ b75 := by rw [g75]; exact K74.1
      have ne_r74_b75 : r74 ≠ b75 := (fun q => absurd A74.lt (by rw [q, g75]; exact Nat.lt_irrefl _))
      have O75 := O74.ext E75
      have K75 := K74.ext E75
      refine own_st st75 ?_
      show own_go _ _ _ _ _ _ _ (T75.setTop (mkF m 80 #[.val (.int p0), .val (.int p1), .val (.int p2), .val (.int (0 : Int32)), .val (.ref c_OUTPUT), .val (.ref r74), .unset, .unset, .unset] [(.ref b75)]))
      refine own_st (fun _ k => XS.dup X75.here hx rfl (hb hby at_80) rfl rfl k) ?_
      show own_go _ _ _ _ _ _ _ (T75.setTop (mkF m 81 #[.val (.int p0), .val (.int p1), .val (.int p2), .val (.int (0 : Int32)), .val (.ref c_OUTPUT), .val (.ref r74), .unset, .unset, .unset] [(.ref b75), (.ref b75)]))
      refine own_st (fun _ k => XS.aload X75.here hx rfl (hb hby at_81) rfl rfl k) ?_
      show own_go _ _ _ _ _ _ _ (T75.setTop (mkF m 83 #[.val (.int p0), .val (.int p1), .val (.int p2), .val (.int (0 : Int32)), .val (.ref c_OUTPUT), .val (.ref r74), .unset, .unset, .unset] [(.ref r74), (.ref b75), (.ref b75)]))
      refine own_st (fun _ k => XS.aload X75.here hx rfl (hb hby at_83) rfl rfl k) ?_
      show own_go _ _ _ _ _ _ _ (T75.setTop (mkF m 85 #[.val (.int p0), .val (.int p1), .val (.int p2), .val (.int (0 : Int32)), .val (.ref c_OUTPUT), .val (.ref r74), .unset, .unset, .unset] [(.ref c_OUTPUT), (.ref r74), (.ref b75), (.ref b75)]))
      have f77 := (A74.ext E75)
      obtain ⟨v76, T76, L76, X76, hQ76, st76⟩ := own_callN X75 hx hZ (argsL := [(.ref r74), (.ref c_OUTPUT)]) (rest := [(.ref b75)]) (rm_vi_1 l Z a0 hw b75 r74 c_OUTPUT c_INPUT z_COMPACT_STRINGS h75 n0 O75 ge_b75 A75 f77 (D75 (Or.inr (hw _ (List.mem_of_getElem? (i := 42) rfl))) (ty := (.object "java/lang/String")) (by decide)) (D75 (Or.inr (hw _ (List.mem_of_getElem? (i := 55) rfl))) (ty := (.object "com/example/bridgr/bridgr/spec/Section")) (by decide)) (D75 (Or.inr (hw _ (List.mem_of_getElem? (i := 57) rfl))) (ty := (.object "java/math/BigInteger")) (by decide)) (D75 (Or.inr (hw _ (List.mem_of_getElem? (i := 59) rfl))) (ty := (.object "java/math/BigInteger")) (by decide)) hS) rfl hown (hw _ (List.mem_of_getElem? (i := 32) rfl)) (hw _ (List.mem_of_getElem? (i := 33) rfl)) (hw _ (List.mem_of_getElem? (i := 31) rfl)) (hw _ (List.mem_of_getElem? (i := 34) rfl)) (by decide) e75 (g := (mkF m 85 #[.val (.int p0), .val (.int p1), .val (.int p2), .val (.int (0 : Int32)), .val (.ref c_OUTPUT), .val (.ref r74), .unset, .unset, .unset] [(.ref c_OUTPUT), (.ref r74), (.ref b75), (.ref b75)])) rfl (by rw [hml]; rfl) (lenOf own_pd__28Ljava_2flang_2fString_3bLcom_2fexample_2fbridgr_2fbridgr_2fspec_2fSection_3b_29V rfl) rfl (W := 1) (by show 2 * 0 + _ ≤ _; exact Nat.le_of_eq rfl) (hb hby at_85) (by decide) (by decide) (by decide) (by decide)
      obtain ⟨rfl, Nq76, Kq76, F76_0⟩ := hQ76
      have N76 := Fr.app N74 Nq76
      have O76 := O75.keep Kq76 (allS ge_b75 all0)
      have K76 := K75.trans Kq76 (allS (Or.inr sz_b75) all0)
      refine own_st st76 ?_
      show own_go _ _ _ _ _ _ _ (T76.setTop (mkF m 88 #[.val (.int p0), .val (.int p1), .val (.int p2), .val (.int (0 : Int32)), .val (.ref c_OUTPUT), .val (.ref r74), .unset, .unset, .unset] [(.ref b75)]))
      refine own_st (fun _ k => XS.astore X76.here hx rfl (hb hby at_88) rfl rfl (l' := #[.val (.int p0), .val (.int p1), .val (.int p2), .val (.int (0 : Int32)), .val (.ref c_OUTPUT), .val (.ref r74), .val (.ref b75), .unset, .unset]) rfl k) ?_
      show own_go _ _ _ _ _ _ _ (T76.setTop (mkF m 90 #[.val (.int p0), .val (.int p1), .val (.int p2), .val (.int (0 : Int32)), .val (.ref c_OUTPUT), .val (.ref r74), .val (.ref b75), .unset, .unset] []))
      refine own_st (fun _ k => XS.aload X76.here hx rfl (hb hby at_90) rfl rfl k) ?_
      show own_go _ _ _ _ _ _ _ (T76.setTop (mkF m 92 #[.val (.int p0), .val (.int p1), .val (.int p2), .val (.int (0 : Int32)), .val (.ref c_OUTPUT), .val (.ref r74), .val (.ref b75), .unset, .unset] [(.ref b75)]))
      have f79 := (A75.keep Kq76)
      obtain ⟨v78, T78, L78, X78, hQ78, st78⟩ := own_callV X76 hx hZ (argsL := []) (rest := []) (rm_ii_1 l Z a0 hw b75 c_OUTPUT c_INPUT z_COMPACT_STRINGS T76.heap n0 O76 hS F76_0) hown (hw _ (List.mem_of_getElem? (i := 60) rfl)) (hw _ (List.mem_of_getElem? (i := 61) rfl)) (notFace_of_selects (args := #[]) (mvT hZ (hw _ (List.mem_of_getElem? (i := 63) rfl)))) (hw _ (List.mem_of_getElem? (i := 63) rfl)) (hw _ (List.mem_of_getElem? (i := 62) rfl)) (hw _ (List.mem_of_getElem? (i := 31) rfl)) (hw _ (List.mem_of_getElem? (i := 64) rfl)) (by decide) rfl f79 (g := (mkF m 92 #[.val (.int p0), .val (.int p1), .val (.int p2), .val (.int (0 : Int32)), .val (.ref c_OUTPUT), .val (.ref r74), .val (.ref b75), .unset, .unset] [(.ref b75)])) rfl (by rw [hml]; rfl) (lenOf own_pd__28_29Z rfl) rfl (W := 0) (by show 2 * 0 + _ ≤ _; exact Nat.le_of_eq rfl) (hb hby at_92) (by decide) (by decide) (by decide) (by decide)
      obtain ⟨rfl, Nq78, eq78⟩ := hQ78
      have N78 := Fr.app N76 Nq78
      refine own_st st78 ?_
      show own_go _ _ _ _ _ _ _ (T78.setTop (mkF m 95 #[.val (.int p0), .val (.int p1), .val (.int p2), .val (.int (0 : Int32)), .val (.ref c_OUTPUT), .val (.ref r74), .val (.ref b75), .unset, .unset] [(.int (0 : Int32))]))
      refine own_st (fun _ k => XS.istore X78.here hx rfl (hb hby at_95) rfl (l' := #[.val (.int p0), .val (.int p1), .val (.int p2), .val (.int (0 : Int32)), .val (.ref c_OUTPUT), .val (.ref r74), .val (.ref b75), .val (.int (0 : Int32)), .unset]) rfl k) ?_
      show own_go _ _ _ _ _ _ _ (T78.setTop (mkF m 97 #[.val (.int p0), .val (.int p1), .val (.int p2), .val (.int (0 : Int32)), .val (.ref c_OUTPUT), .val (.ref r74), .val (.ref b75), .val (.int (0 : Int32)), .unset] []))
      refine own_st (fun _ k => XS.aload X78.here hx rfl (hb hby at_97) rfl rfl k) ?_
      show own_go _ _ _ _ _ _ _ (T78.setTop (mkF m 99 #[.val (.int p0), .val (.int p1), .val (.int p2), .val (.int (0 : Int32)), .val (.ref c_OUTPUT), .val (.ref r74), .val (.ref b75), .val (.int (0 : Int32)), .unset] [(.ref b75)]))
      obtain ⟨v80, T80, L80, X80, hQ80, st80⟩ := own_callV X78 hx hZ (argsL := []) (rest := []) (rm_de l Z a0 hw b75 c_OUTPUT T76.heap n0 O76 F76_0) hown (hw _ (List.mem_of_getElem? (i := 66) rfl)) (hw _ (List.mem_of_getElem? (i := 67) rfl)) (notFace_of_selects (args := #[]) (mvT hZ (hw _ (List.mem_of_getElem? (i := 69) rfl)))) (hw _ (List.mem_of_getElem? (i := 69) rfl)) (hw _ (List.mem_of_getElem? (i := 68) rfl)) (hw _ (List.mem_of_getElem? (i := 31) rfl)) (hw _ (List.mem_of_getElem? (i := 70) rfl)) (by decide) eq78 f79 (g := (mkF m 99 #[.val (.int p0), .val (.int p1), .val (.int p2), .val (.int (0 : Int32)), .val (.ref c_OUTPUT), .val (.ref r74), .val (.ref b75), .val (.int (0 : Int32)), .unset] [(.ref b75)])) rfl (by rw [hml]; rfl) (lenOf own_pd__28_29Lcom_2fexample_2fbridgr_2fbridgr_2fspec_2fSection_3b rfl) rfl (W := 0) (by show 2 * 0 + _ ≤ _; exact Nat.le_of_eq rfl) (hb hby at_99) (by decide) (by decide) (by decide) (by decide)
      obtain ⟨rfl, Nq80, eq80⟩ := hQ80
      have N80 := Fr.app N78 Nq80
      refine own_st st80 ?_
      show own_go _ _ _ _ _ _ _ (T80.setTop (mkF m 102 #[.val (.int p0), .val (.int p1), .val (.int p2), .val (.int (0 : Int32)), .val (.ref c_OUTPUT), .val (.ref r74), .val (.ref b75), .val (.int (0 : Int32)), .unset] [(.ref c_OUTPUT)]))
      obtain ⟨T81, X81, e81, st81⟩ := getS2 X80 hx hZ hown (host := "") (Or.inl (hw _ (List.mem_of_getElem? (i := 71) rfl))) Via.refl eq80 (hS.2.2.1.ext O76.2) (g := (mkF m 102 #[.val (.int p0), .val (.int p1), .val (.int p2), .val (.int (0 : Int32)), .val (.ref c_OUTPUT), .val (.ref r74), .val (.ref b75), .val (.int (0 : Int32)), .unset] [(.ref c_OUTPUT)])) rfl (hb hby at_102)
      refine own_st st81 ?_
      show own_go _ _ _ _ _ _ _ (T81.setTop (mkF m 105 #[.val (.int p0), .val (.int p1), .val (.int p2), .val (.int (0 : Int32)), .val (.ref c_OUTPUT), .val (.ref r74), .val (.ref b75), .val (.int (0 : Int32)), .unset] [(.ref c_INPUT), (.ref c_OUTPUT)]))
      refine own_st (fun _ k => Jvm.RoadKit.acmp (g := (mkF m 105 #[.val (.int p0), .val (.int p1), .val (.int p2), .val (.int (0 : Int32)), .val (.ref c_OUTPUT), .val (.ref r74), .val (.ref b75), .val (.int (0 : Int32)), .unset] [(.ref c_INPUT), (.ref c_OUTPUT)])) X81 hx rfl rfl rfl (pc0 := 105) (pc' := 112) (same := false) rfl (hb hby at_105) rfl (decide_eq_false fun q => (own_ne hS.2.2.2.2.1 hS.2.2.2.2.2.1 (by decide)) (Value.ref.inj q)) (by decide) (by decide) k) ?_
      show own_go _ _ _ _ _ _ _ (T81.setTop (mkF m 112 #[.val (.int p0), .val (.int p1), .val (.int p2), .val (.int (0 : Int32)), .val (.ref c_OUTPUT), .val (.ref r74), .val (.ref b75), .val (.int (0 : Int32)), .unset] []))
      refine own_st (fun _ k => XS.iconst X81.here hx rfl (hb hby at_112) k) ?_
      show own_go _ _ _ _ _ _ _ (T81.setTop (mkF m 113 #[.val (.int p0), .val (.int p1), .val (.int p2), .val (.int (0 : Int32)), .val (.ref c_OUTPUT), .val (.ref r74), .val (.ref b75), .val (.int (0 : Int32)), .unset] [(.int (0 : Int32))]))
      refine own_st (fun _ k => XS.istore X81.here hx rfl (hb hby at_113) rfl (l' := #[.val (.int p0), .val (.int p1), .val (.int p2), .val (.int (0 : Int32)), .val (.ref c_OUTPUT), .val (.ref r74), .val (.ref b75), .val (.int (0 : Int32)), .val (.int (0 : Int32))]) rfl k) ?_
      show own_go _ _ _ _ _ _ _ (T81.setTop (mkF m 115 #[.val (.int p0), .val (.int p1), .val (.int p2), .val (.int (0 : Int32)), .val (.ref c_OUTPUT), .val (.ref r74), .val (.ref b75), .val (.int (0 : Int32)), .val (.int (0 : Int32))] []))
      refine own_st (fun _ k => XS.iload X81.here hx rfl (hb hby at_115) rfl k) ?_
      show own_go _ _ _ _ _ _ _ (T81.setTop (mkF m 117 #[.val (.int p0), .val (.int p1), .val (.int p2), .val (.int (0 : Int32)), .val (.ref c_OUTPUT), .val (.ref r74), .val (.ref b75), .val (.int (0 : Int32)), .val (.int (0 : Int32))] [(.int (0 : Int32))]))
      refine own_st (fun _ k => XS.iloadN X81.here hx rfl (hb hby at_117) rfl k) ?_
      show own_go _ _ _ _ _ _ _ (T81.setTop (mkF m 118 #[.val (.int p0), .val (.int p1), .val (.int p2), .val (.int (0 : Int32)), .val (.ref c_OUTPUT), .val (.ref r74), .val (.ref b75), .val (.int (0 : Int32)), .val (.int (0 : Int32))] [(.int (0 : Int32)), (.int (0 : Int32))]))
      refine own_st (fun _ k => XS.icmpNo X81.here hx rfl (hb hby at_118) rfl (by decide) k) ?_
      show own_go _ _ _ _ _ _ _ (T81.setTop (mkF m 121 #[.val (.int p0), .val (.int p1), .val (.int p2), .val (.int (0 : Int32)), .val (.ref c_OUTPUT), .val (.ref r74), .val (.ref b75), .val (.int (0 : Int32)), .val (.int (0 : Int32))] []))
      refine own_st (fun _ k => XS.iload X81.here hx rfl (hb hby at_121) rfl k) ?_
      show own_go _ _ _ _ _ _ _ (T81.setTop (mkF m 123 #[.val (.int p0), .val (.int p1), .val (.int p2), .val (.int (0 : Int32)), .val (.ref c_OUTPUT), .val (.ref r74), .val (.ref b75), .val (.int (0 : Int32)), .val (.int (0 : Int32))] [(.int (0 : Int32))]))
      refine own_st (fun _ k => XS.iload X81.here hx rfl (hb hby at_123) rfl k) ?_
      show own_go _ _ _ _ _ _ _ (T81.setTop (mkF m 125 #[.val (.int p0), .val (.int p1), .val (.int p2), .val (.int (0 : Int32)), .val (.ref c_OUTPUT), .val (.ref r74), .val (.ref b75), .val (.int (0 : Int32)), .val (.int (0 : Int32))] [(.int (0 : Int32)), (.int (0 : Int32))]))
      refine own_st (fun _ k => XS.icmpNo X81.here hx rfl (hb hby at_125) rfl (by decide) k) ?_
      show own_go _ _ _ _ _ _ _ (T81.setTop (mkF m 128 #[.val (.int p0), .val (.int p1), .val (.int p2), .val (.int (0 : Int32)), .val (.ref c_OUTPUT), .val (.ref r74), .val (.ref b75), .val (.int (0 : Int32)), .val (.int (0 : Int32))] []))
      refine own_st (fun _ k => XS.iconst X81.here hx rfl (hb hby at_128) k) ?_
      show own_go _ _ _ _ _ _ _ (T81.setTop (mkF m 129 #[.val (.int p0), .val (.int p1), .val (.int p2), .val (.int (0 : Int32)), .val (.ref c_OUTPUT), .val (.ref r74), .val (.ref b75), .val (.int (0 : Int32)), .val (.int (0 : Int32))] [(.int (1 : Int32))]))
      refine own_st (fun _ k => XS.goto X81.here hx rfl (pc0 := 129) (pc' := 133) rfl (hb hby at_129) (by decide) (by decide) k) ?_
      show own_go _ _ _ _ _ _ _ (T81.setTop (mkF m 133 #[.val (.int p0), .val (.int p1), .val (.int p2), .val (.int (0 : Int32)), .val (.ref c_OUTPUT), .val (.ref r74), .val (.ref b75), .val (.int (0 : Int32)), .val (.int (0 : Int32))] [(.int (1 : Int32))]))
      exact own_retN X81 hx hlk (t := .boolean) hret (by simp) rfl (hb hby at_133) (by decide) (by decide) (⟨rfl, N80⟩)
    · skip
      refine own_st (fun _ k => XS.ifNo X72.here hx rfl (hb hby at_30) rfl (XT.i0_eq_f hc73) k) ?_
      show own_go _ _ _ _ _ _ _ (T72.setTop (mkF m 33 #[.val (.int p0), .val (.int p1), .val (.int p2), .val (.int (0 : Int32)), .val (.ref c_OUTPUT), .unset, .unset, .unset, .unset] []))
      obtain ⟨T82, h82, X82, e82, E82, A82, D82, -, st82⟩ := newO X72 hx hZ hown (hw _ (List.mem_of_getElem? (i := 72) rfl)) (hw _ (List.mem_of_getElem? (i := 13) rfl)) (hw _ (List.mem_of_getElem? (i := 5) rfl)) e72 (g := (mkF m 33 #[.val (.int p0), .val (.int p1), .val (.int p2), .val (.int (0 : Int32)), .val (.ref c_OUTPUT), .unset, .unset, .unset, .unset] [])) rfl (hb hby at_33) (by decide) (by decide)
      obtain ⟨b82, g82⟩ : ∃ z, z = h0.size := ⟨_, rfl⟩
      rw [← g82] at A82 D82 st82
      have ge_b82 : n0 ≤ b82 := by rw [g82]; exact own_osz O0
      have sz_b82 : h0.size ≤ b82 := by rw [g82]; exact K0.1
      have O82 := O0.ext E82
      have K82 := K0.ext E82
      refine own_st st82 ?_
      show own_go _ _ _ _ _ _ _ (T82.setTop (mkF m 36 #[.val (.int p0), .val (.int p1), .val (.int p2), .val (.int (0 : Int32)), .val (.ref c_OUTPUT), .unset, .unset, .unset, .unset] [(.ref b82)]))
      refine own_st (fun _ k => XS.dup X82.here hx rfl (hb hby at_36) rfl rfl k) ?_
      show own_go _ _ _ _ _ _ _ (T82.setTop (mkF m 37 #[.val (.int p0), .val (.int p1), .val (.int p2), .val (.int (0 : Int32)), .val (.ref c_OUTPUT), .unset, .unset, .unset, .unset] [(.ref b82), (.ref b82)]))
      refine own_st (fun _ k => XS.iconst X82.here hx rfl (hb hby at_37) k) ?_
      show own_go _ _ _ _ _ _ _ (T82.setTop (mkF m 38 #[.val (.int p0), .val (.int p1), .val (.int p2), .val (.int (0 : Int32)), .val (.ref c_OUTPUT), .unset, .unset, .unset, .unset] [(.int (2 : Int32)), (.ref b82), (.ref b82)]))
      obtain ⟨T83, h83, k83, b83, X83, e83, g83, E83, V83, st83⟩ := own_newP X82 hx hZ (aty := .char) (hw _ (List.mem_of_getElem? (i := 73) rfl)) e82 (g := (mkF m 38 #[.val (.int p0), .val (.int p1), .val (.int p2), .val (.int (0 : Int32)), .val (.ref c_OUTPUT), .unset, .unset, .unset, .unset] [(.int (2 : Int32)), (.ref b82), (.ref b82)])) rfl (hb hby at_38) rfl (by decide) (cap := 2) (by decide) (by decide) (by decide) (by decide)
      replace V83 : Arv Z h83 b83 k83 .char (2 : Int32) [(.int (0 : Int32)), (.int (0 : Int32))] (.int (0 : Int32)) := V83
      have ge_b83 : n0 ≤ b83 := by rw [g83]; exact own_osz O82
      have sz_b83 : h0.size ≤ b83 := by rw [g83]; exact K82.1
      have ne_b82_b83 : b82 ≠ b83 := (fun q => absurd A82.lt (by rw [q, g83]; exact Nat.lt_irrefl _))
      have O83 := O82.ext E83
      have K83 := K82.ext E83
      refine own_st st83 ?_
      show own_go _ _ _ _ _ _ _ (T83.setTop (mkF m 40 #[.val (.int p0), .val (.int p1), .val (.int p2), .val (.int (0 : Int32)), .val (.ref c_OUTPUT), .unset, .unset, .unset, .unset] [(.ref b83), (.ref b82), (.ref b82)]))
      refine own_st (fun _ k => XS.dup X83.here hx rfl (hb hby at_40) rfl rfl k) ?_
      show own_go _ _ _ _ _ _ _ (T83.setTop (mkF m 41 #[.val (.int p0), .val (.int p1), .val (.int p2), .val (.int (0 : Int32)), .val (.ref c_OUTPUT), .unset, .unset, .unset, .unset] [(.ref b83), (.ref b83), (.ref b82), (.ref b82)]))
      refine own_st (fun _ k => XS.iconst X83.here hx rfl (hb hby at_41) k) ?_
      show own_go _ _ _ _ _ _ _ (T83.setTop (mkF m 42 #[.val (.int p0), .val (.int p1), .val (.int p2), .val (.int (0 : Int32)), .val (.ref c_OUTPUT), .unset, .unset, .unset, .unset] [(.int (0 : Int32)), (.ref b83), (.ref b83), (.ref b82), (.ref b82)]))
      refine own_st (fun _ k => XS.iloadN X83.here hx rfl (hb hby at_42) rfl k) ?_
      show own_go _ _ _ _ _ _ _ (T83.setTop (mkF m 43 #[.val (.int p0), .val (.int p1), .val (.int p2), .val (.int (0 : Int32)), .val (.ref c_OUTPUT), .unset, .unset, .unset, .unset] [(.int p1), (.int (0 : Int32)), (.ref b83), (.ref b83), (.ref b82), (.ref b82)]))
      refine own_st (fun _ k => XS.sipush X83.here hx rfl (hb hby at_43) k) ?_
      show own_go _ _ _ _ _ _ _ (T83.setTop (mkF m 46 #[.val (.int p0), .val (.int p1), .val (.int p2), .val (.int (0 : Int32)), .val (.ref c_OUTPUT), .unset, .unset, .unset, .unset] [(.int (255 : Int32)), (.int p1), (.int (0 : Int32)), (.ref b83), (.ref b83), (.ref b82), (.ref b82)]))
      refine own_st (fun _ k => XS.iand X83.here hx rfl (hb hby at_46) rfl k) ?_
      show own_go _ _ _ _ _ _ _ (T83.setTop (mkF m 47 #[.val (.int p0), .val (.int p1), .val (.int p2), .val (.int (0 : Int32)), .val (.ref c_OUTPUT), .unset, .unset, .unset, .unset] [(.int (p1 &&& (255 : Int32))), (.int (0 : Int32)), (.ref b83), (.ref b83), (.ref b82), (.ref b82)]))
      refine own_st (fun _ k => XS.i2c X83.here hx rfl (hb hby at_47) rfl k) ?_
      show own_go _ _ _ _ _ _ _ (T83.setTop (mkF m 48 #[.val (.int p0), .val (.int p1), .val (.int p2), .val (.int (0 : Int32)), .val (.ref c_OUTPUT), .unset, .unset, .unset, .unset] [(.int ((p1 &&& (255 : Int32)).toUInt32.toUInt16.toUInt32.toInt32)), (.int (0 : Int32)), (.ref b83), (.ref b83), (.ref b82), (.ref b82)]))
      rw [i2c_mask]
      show own_go _ _ _ _ _ _ _ (T83.setTop (mkF m 48 #[.val (.int p0), .val (.int p1), .val (.int p2), .val (.int (0 : Int32)), .val (.ref c_OUTPUT), .unset, .unset, .unset, .unset] [(.int (p1 &&& (255 : Int32))), (.int (0 : Int32)), (.ref b83), (.ref b83), (.ref b82), (.ref b82)]))
      obtain ⟨T84, h84, X84, e84, W84, V84, st84⟩ := own_putC X83 hx hZ e83 V83 (y := (p1 &&& (255 : Int32))) (i2c_mask _) (j := (0 : Int32)) (by decide) 0 (by decide) (by show 0 < 2; decide) (g := (mkF m 48 #[.val (.int p0), .val (.int p1), .val (.int p2), .val (.int (0 : Int32)), .val (.ref c_OUTPUT), .unset, .unset, .unset, .unset] [(.int (p1 &&& (255 : Int32))), (.int (0 : Int32)), (.ref b83), (.ref b83), (.ref b82), (.ref b82)])) rfl rfl (hb hby at_48)
      have N84 := Fr.snoc X84 N0 ge_b83
      replace V84 : Arv Z h84 b83 k83 .char (2 : Int32) [(.int (p1 &&& (255 : Int32))), (.int (0 : Int32))] (.int (0 : Int32)) := V84
      have O85 := O83.wr W84 ge_b83
      have K85 := K83.wr W84 (Or.inr sz_b83)
      refine own_st st84 ?_
      show own_go _ _ _ _ _ _ _ (T84.setTop (mkF m 49 #[.val (.int p0), .val (.int p1), .val (.int p2), .val (.int (0 : Int32)), .val (.ref c_OUTPUT), .unset, .unset, .unset, .unset] [(.ref b83), (.ref b82), (.ref b82)]))
      refine own_st (fun _ k => XS.dup X84.here hx rfl (hb hby at_49) rfl rfl k) ?_
      show own_go _ _ _ _ _ _ _ (T84.setTop (mkF m 50 #[.val (.int p0), .val (.int p1), .val (.int p2), .val (.int (0 : Int32)), .val (.ref c_OUTPUT), .unset, .unset, .unset, .unset] [(.ref b83), (.ref b83), (.ref b82), (.ref b82)]))
      refine own_st (fun _ k => XS.iconst X84.here hx rfl (hb hby at_50) k) ?_
      show own_go _ _ _ _ _ _ _ (T84.setTop (mkF m 51 #[.val (.int p0), .val (.int p1), .val (.int p2), .val (.int (0 : Int32)), .val (.ref c_OUTPUT), .unset, .unset, .unset, .unset] [(.int (1 : Int32)), (.ref b83), (.ref b83), (.ref b82), (.ref b82)]))
      refine own_st (fun _ k => XS.iloadN X84.here hx rfl (hb hby at_51) rfl k) ?_
      show own_go _ _ _ _ _ _ _ (T84.setTop (mkF m 52 #[.val (.int p0), .val (.int p1), .val (.int p2), .val (.int (0 : Int32)), .val (.ref c_OUTPUT), .unset, .unset, .unset, .unset] [(.int p2), (.int (1 : Int32)), (.ref b83), (.ref b83), (.ref b82), (.ref b82)]))
      refine own_st (fun _ k => XS.sipush X84.here hx rfl (hb hby at_52) k) ?_
      show own_go _ _ _ _ _ _ _ (T84.setTop (mkF m 55 #[.val (.int p0), .val (.int p1), .val (.int p2), .val (.int (0 : Int32)), .val (.ref c_OUTPUT), .unset, .unset, .unset, .unset] [(.int (255 : Int32)), (.int p2), (.int (1 : Int32)), (.ref b83), (.ref b83), (.ref b82), (.ref b82)]))
      refine own_st (fun _ k => XS.iand X84.here hx rfl (hb hby at_55) rfl k) ?_
      show own_go _ _ _ _ _ _ _ (T84.setTop (mkF m 56 #[.val (.int p0), .val (.int p1), .val (.int p2), .val (.int (0 : Int32)), .val (.ref c_OUTPUT), .unset, .unset, .unset, .unset] [(.int (p2 &&& (255 : Int32))), (.int (1 : Int32)), (.ref b83), (.ref b83), (.ref b82), (.ref b82)]))
      refine own_st (fun _ k => XS.i2c X84.here hx rfl (hb hby at_56) rfl k) ?_
      show own_go _ _ _ _ _ _ _ (T84.setTop (mkF m 57 #[.val (.int p0), .val (.int p1), .val (.int p2), .val (.int (0 : Int32)), .val (.ref c_OUTPUT), .unset, .unset, .unset, .unset] [(.int ((p2 &&& (255 : Int32)).toUInt32.toUInt16.toUInt32.toInt32)), (.int (1 : Int32)), (.ref b83), (.ref b83), (.ref b82), (.ref b82)]))
      rw [i2c_mask]
      show own_go _ _ _ _ _ _ _ (T84.setTop (mkF m 57 #[.val (.int p0), .val (.int p1), .val (.int p2), .val (.int (0 : Int32)), .val (.ref c_OUTPUT), .unset, .unset, .unset, .unset] [(.int (p2 &&& (255 : Int32))), (.int (1 : Int32)), (.ref b83), (.ref b83), (.ref b82), (.ref b82)]))
      obtain ⟨T86, h86, X86, e86, W86, V86, st86⟩ := own_putC X84 hx hZ e84 V84 (y := (p2 &&& (255 : Int32))) (i2c_mask _) (j := (1 : Int32)) (by decide) 1 (by decide) (by show 1 < 2; decide) (g := (mkF m 57 #[.val (.int p0), .val (.int p1), .val (.int p2), .val (.int (0 : Int32)), .val (.ref c_OUTPUT), .unset, .unset, .unset, .unset] [(.int (p2 &&& (255 : Int32))), (.int (1 : Int32)), (.ref b83), (.ref b83), (.ref b82), (.ref b82)])) rfl rfl (hb hby at_57)
      have N86 := Fr.snoc X86 N84 ge_b83
      replace V86 : Arv Z h86 b83 k83 .char (2 : Int32) [(.int (p1 &&& (255 : Int32))), (.int (p2 &&& (255 : Int32)))] (.int (0 : Int32)) := V86
      have O87 := O85.wr W86 ge_b83
      have K87 := K85.wr W86 (Or.inr sz_b83)
      refine own_st st86 ?_
      show own_go _ _ _ _ _ _ _ (T86.setTop (mkF m 58 #[.val (.int p0), .val (.int p1), .val (.int p2), .val (.int (0 : Int32)), .val (.ref c_OUTPUT), .unset, .unset, .unset, .unset] [(.ref b83), (.ref b82), (.ref b82)]))
      have hws88 : ∀ d ∈ StrChars.Road.words, d.before a0 Z = true := fun d hd => hw d ((by decide +kernel : ∀ d ∈ StrChars.Road.words, d ∈ tables_1) d hd)
      have hlat88 : ∀ c ∈ [(p1 &&& (255 : Int32)), (p2 &&& (255 : Int32))], ¬ c < 0 ∧ ¬ (255 : Int32) < c := by
        intro c hc
        simp only [List.mem_cons, List.not_mem_nil, or_false] at hc
        rcases hc with rfl | rfl
        · exact own_p255 _
        · exact own_p255 _
      have f89 := (((A82.ext E83).wr W84).wr W86)
      have f90 := ((((D82 (Or.inr (hw _ (List.mem_of_getElem? (i := 26) rfl))) (ty := (.array .byte)) (by decide)).ext E83).other W84 (Or.inl ne_b82_b83)).other W86 (Or.inl ne_b82_b83))
      have f91 := ((((D82 (Or.inr (hw _ (List.mem_of_getElem? (i := 28) rfl))) (ty := .byte) (by decide)).ext E83).other W84 (Or.inl ne_b82_b83)).other W86 (Or.inl ne_b82_b83))
      obtain ⟨v88, _, ⟨T88, L88, k88, n88⟩, -, X88, ⟨Lc88, hQ88, l88, y88, z88⟩, st88⟩ := X86.specialBack hx (y := (⟨"java/lang/String", "<init>", "([C)V"⟩ : MethodName)) rfl hown (mvT hZ (hw _ (List.mem_of_getElem? (i := 74) rfl))) (mvT hZ (hw _ (List.mem_of_getElem? (i := 75) rfl))) (mvT hZ (hw _ (List.mem_of_getElem? (i := 76) rfl))) (by decide) (StrChars.Road.backV (W := 1) hZ hws88 (kI := 4) (hw _ (List.mem_of_getElem? (i := 13) rfl)) (cs := [(p1 &&& (255 : Int32)), (p2 &&& (255 : Int32))]) (bs := [((p1 &&& (255 : Int32))).toInt8.toInt32, ((p2 &&& (255 : Int32))).toInt8.toInt32]) (n := 2) ge_b82 (own_osz O87) f89 f90 f91 V86 (hS.2.2.2.2.2.2.1.ext O87.2) hS.2.2.2.2.2.2.2 rfl rfl (by decide) (by decide) hlat88 rfl (by decide) (by decide)) (g := (mkF m 58 #[.val (.int p0), .val (.int p1), .val (.int p2), .val (.int (0 : Int32)), .val (.ref c_OUTPUT), .unset, .unset, .unset, .unset] [(.ref b83), (.ref b82), (.ref b82)])) rfl (by rw [hml]; rfl) (Steps.refl _) (a := b82) (argsL := [(.ref b83)]) (rest := [(.ref b82)]) (lenOf own_pd__28_5bC_29V rfl) rfl (by show 2 * 0 + _ ≤ _; exact Nat.le_of_eq rfl) (hb hby at_58) (fun _ _ => ⟨rfl, e86, (by decide : 2 + 1 ≤ _), (by decide : 6 + 2 ≤ _)⟩)
      dsimp only [Pt.U, Pt.locs, Pt.cells, Pt.slots] at X88 l88 y88 z88 st88 hQ88
      subst l88 y88 z88
      obtain ⟨rfl, Nq88, Kq88, A88, C88, t88, kb88, gt88, szt88, net88, U88, Vt88⟩ := hQ88
      have N88 := Fr.app N86 Nq88
      have ne_b82_t88 : b82 ≠ t88 := (Nat.ne_of_lt (Nat.lt_of_lt_of_le f89.lt szt88))
      have ne_b83_t88 : b83 ≠ t88 := (Nat.ne_of_lt (Nat.lt_of_lt_of_le V86.lt szt88))
      have O88 := O87.keep Kq88 (allS ge_b82 all0)
      have K88 := K87.trans Kq88 (allS (Or.inr sz_b82) all0)
      refine own_st (fun _ k => st88.trans k) ?_
      show own_go _ _ _ _ _ _ _ (T88.setTop (mkF m 61 #[.val (.int p0), .val (.int p1), .val (.int p2), .val (.int (0 : Int32)), .val (.ref c_OUTPUT), .unset, .unset, .unset, .unset] [(.ref b82)]))
      refine own_st (fun _ k => XS.astore X88.here hx rfl (hb hby at_61) rfl rfl (l' := #[.val (.int p0), .val (.int p1), .val (.int p2), .val (.int (0 : Int32)), .val (.ref c_OUTPUT), .val (.ref b82), .unset, .unset, .unset]) rfl k) ?_
      show own_go _ _ _ _ _ _ _ (T88.setTop (mkF m 63 #[.val (.int p0), .val (.int p1), .val (.int p2), .val (.int (0 : Int32)), .val (.ref c_OUTPUT), .val (.ref b82), .unset, .unset, .unset] []))
      refine own_st (fun _ k => XS.goto X88.here hx rfl (pc0 := 63) (pc' := 77) rfl (hb hby at_63) (by decide) (by decide) k) ?_
      show own_go _ _ _ _ _ _ _ (T88.setTop (mkF m 77 #[.val (.int p0), .val (.int p1), .val (.int p2), .val (.int (0 : Int32)), .val (.ref c_OUTPUT), .val (.ref b82), .unset, .unset, .unset] []))
      obtain ⟨T92, h92, X92, e92, E92, A92, D92, -, st92⟩ := newO X88 hx hZ hown (hw _ (List.mem_of_getElem? (i := 29) rfl)) (hw _ (List.mem_of_getElem? (i := 30) rfl)) (hw _ (List.mem_of_getElem? (i := 31) rfl)) rfl (g := (mkF m 77 #[.val (.int p0), .val (.int p1), .val (.int p2), .val (.int (0 : Int32)), .val (.ref c_OUTPUT), .val (.ref b82), .unset, .unset, .unset] [])) rfl (hb hby at_77) (by decide) (by decide)
      obtain ⟨b92, g92⟩ : ∃ z, z = T88.heap.size := ⟨_, rfl⟩
      rw [← g92] at A92 D92 st92
      have ge_b92 : n0 ≤ b92 := by rw [g92]; exact own_osz O88
      have sz_b92 : h0.size ≤ b92 := by rw [g92]; exact K88.1
      have ne_b82_b92 : b82 ≠ b92 := (fun q => absurd A88.lt (by rw [q, g92]; exact Nat.lt_irrefl _))
      have f93 := (V86.keep Kq88 (ninS (Ne.symm ne_b82_b83) nin0))
      have ne_b83_b92 : b83 ≠ b92 := (fun q => absurd f93.lt (by rw [q, g92]; exact Nat.lt_irrefl _))
      have ne_t88_b92 : t88 ≠ b92 := (fun q => absurd Vt88.lt (by rw [q, g92]; exact Nat.lt_irrefl _))
      have O92 := O88.ext E92
      have K92 := K88.ext E92
      refine own_st st92 ?_
      show own_go _ _ _ _ _ _ _ (T92.setTop (mkF m 80 #[.val (.int p0), .val (.int p1), .val (.int p2), .val (.int (0 : Int32)), .val (.ref c_OUTPUT), .val (.ref b82), .unset, .unset, .unset] [(.ref b92)]))
      refine own_st (fun _ k => XS.dup X92.here hx rfl (hb hby at_80) rfl rfl k) ?_
      show own_go _ _ _ _ _ _ _ (T92.setTop (mkF m 81 #[.val (.int p0), .val (.int p1), .val (.int p2), .val (.int (0 : Int32)), .val (.ref c_OUTPUT), .val (.ref b82), .unset, .unset, .unset] [(.ref b92), (.ref b92)]))
      refine own_st (fun _ k => XS.aload X92.here hx rfl (hb hby at_81) rfl rfl k) ?_
      show own_go _ _ _ _ _ _ _ (T92.setTop (mkF m 83 #[.val (.int p0), .val (.int p1), .val (.int p2), .val (.int (0 : Int32)), .val (.ref c_OUTPUT), .val (.ref b82), .unset, .unset, .unset] [(.ref b82), (.ref b92), (.ref b92)]))
      refine own_st (fun _ k => XS.aload X92.here hx rfl (hb hby at_83) rfl rfl k) ?_
      show own_go _ _ _ _ _ _ _ (T92.setTop (mkF m 85 #[.val (.int p0), .val (.int p1), .val (.int p2), .val (.int (0 : Int32)), .val (.ref c_OUTPUT), .val (.ref b82), .unset, .unset, .unset] [(.ref c_OUTPUT), (.ref b82), (.ref b92), (.ref b92)]))
      have f95 := (A88.ext E92)
      obtain ⟨v94, T94, L94, X94, hQ94, st94⟩ := own_callN X92 hx hZ (argsL := [(.ref b82), (.ref c_OUTPUT)]) (rest := [(.ref b92)]) (rm_vi_1 l Z a0 hw b92 b82 c_OUTPUT c_INPUT z_COMPACT_STRINGS h92 n0 O92 ge_b92 A92 f95 (D92 (Or.inr (hw _ (List.mem_of_getElem? (i := 42) rfl))) (ty := (.object "java/lang/String")) (by decide)) (D92 (Or.inr (hw _ (List.mem_of_getElem? (i := 55) rfl))) (ty := (.object "com/example/bridgr/bridgr/spec/Section")) (by decide)) (D92 (Or.inr (hw _ (List.mem_of_getElem? (i := 57) rfl))) (ty := (.object "java/math/BigInteger")) (by decide)) (D92 (Or.inr (hw _ (List.mem_of_getElem? (i := 59) rfl))) (ty := (.object "java/math/BigInteger")) (by decide)) hS) rfl hown (hw _ (List.mem_of_getElem? (i := 32) rfl)) (hw _ (List.mem_of_getElem? (i := 33) rfl)) (hw _ (List.mem_of_getElem? (i := 31) rfl)) (hw _ (List.mem_of_getElem? (i := 34) rfl)) (by decide) e92 (g := (mkF m 85 #[.val (.int p0), .val (.int p1), .val (.int p2), .val (.int (0 : Int32)), .val (.ref c_OUTPUT), .val (.ref b82), .unset, .unset, .unset] [(.ref c_OUTPUT), (.ref b82), (.ref b92), (.ref b92)])) rfl (by rw [hml]; rfl) (lenOf own_pd__28Ljava_2flang_2fString_3bLcom_2fexample_2fbridgr_2fbridgr_2fspec_2fSection_3b_29V rfl) rfl (W := 1) (by show 2 * 0 + _ ≤ _; exact Nat.le_of_eq rfl) (hb hby at_85) (by decide) (by decide) (by decide) (by decide)
      obtain ⟨rfl, Nq94, Kq94, F94_0⟩ := hQ94
      have N94 := Fr.app N88 Nq94
      have O94 := O92.keep Kq94 (allS ge_b92 all0)
      have K94 := K92.trans Kq94 (allS (Or.inr sz_b92) all0)
      refine own_st st94 ?_
      show own_go _ _ _ _ _ _ _ (T94.setTop (mkF m 88 #[.val (.int p0), .val (.int p1), .val (.int p2), .val (.int (0 : Int32)), .val (.ref c_OUTPUT), .val (.ref b82), .unset, .unset, .unset] [(.ref b92)]))
      refine own_st (fun _ k => XS.astore X94.here hx rfl (hb hby at_88) rfl rfl (l' := #[.val (.int p0), .val (.int p1), .val (.int p2), .val (.int (0 : Int32)), .val (.ref c_OUTPUT), .val (.ref b82), .val (.ref b92), .unset, .unset]) rfl k) ?_
      show own_go _ _ _ _ _ _ _ (T94.setTop (mkF m 90 #[.val (.int p0), .val (.int p1), .val (.int p2), .val (.int (0 : Int32)), .val (.ref c_OUTPUT), .val (.ref b82), .val (.ref b92), .unset, .unset] []))
      refine own_st (fun _ k => XS.aload X94.here hx rfl (hb hby at_90) rfl rfl k) ?_
      show own_go _ _ _ _ _ _ _ (T94.setTop (mkF m 92 #[.val (.int p0), .val (.int p1), .val (.int p2), .val (.int (0 : Int32)), .val (.ref c_OUTPUT), .val (.ref b82), .val (.ref b92), .unset, .unset] [(.ref b92)]))
      have f97 := (A92.keep Kq94)
      obtain ⟨v96, T96, L96, X96, hQ96, st96⟩ := own_callV X94 hx hZ (argsL := []) (rest := []) (rm_ii_1 l Z a0 hw b92 c_OUTPUT c_INPUT z_COMPACT_STRINGS T94.heap n0 O94 hS F94_0) hown (hw _ (List.mem_of_getElem? (i := 60) rfl)) (hw _ (List.mem_of_getElem? (i := 61) rfl)) (notFace_of_selects (args := #[]) (mvT hZ (hw _ (List.mem_of_getElem? (i := 63) rfl)))) (hw _ (List.mem_of_getElem? (i := 63) rfl)) (hw _ (List.mem_of_getElem? (i := 62) rfl)) (hw _ (List.mem_of_getElem? (i := 31) rfl)) (hw _ (List.mem_of_getElem? (i := 64) rfl)) (by decide) rfl f97 (g := (mkF m 92 #[.val (.int p0), .val (.int p1), .val (.int p2), .val (.int (0 : Int32)), .val (.ref c_OUTPUT), .val (.ref b82), .val (.ref b92), .unset, .unset] [(.ref b92)])) rfl (by rw [hml]; rfl) (lenOf own_pd__28_29Z rfl) rfl (W := 0) (by show 2 * 0 + _ ≤ _; exact Nat.le_of_eq rfl) (hb hby at_92) (by decide) (by decide) (by decide) (by decide)
      obtain ⟨rfl, Nq96, eq96⟩ := hQ96
      have N96 := Fr.app N94 Nq96
      refine own_st st96 ?_
      show own_go _ _ _ _ _ _ _ (T96.setTop (mkF m 95 #[.val (.int p0), .val (.int p1), .val (.int p2), .val (.int (0 : Int32)), .val (.ref c_OUTPUT), .val (.ref b82), .val (.ref b92), .unset, .unset] [(.int (0 : Int32))]))
      refine own_st (fun _ k => XS.istore X96.here hx rfl (hb hby at_95) rfl (l' := #[.val (.int p0), .val (.int p1), .val (.int p2), .val (.int (0 : Int32)), .val (.ref c_OUTPUT), .val (.ref b82), .val (.ref b92), .val (.int (0 : Int32)), .unset]) rfl k) ?_
      show own_go _ _ _ _ _ _ _ (T96.setTop (mkF m 97 #[.val (.int p0), .val (.int p1), .val (.int p2), .val (.int (0 : Int32)), .val (.ref c_OUTPUT), .val (.ref b82), .val (.ref b92), .val (.int (0 : Int32)), .unset] []))
      refine own_st (fun _ k => XS.aload X96.here hx rfl (hb hby at_97) rfl rfl k) ?_
      show own_go _ _ _ _ _ _ _ (T96.setTop (mkF m 99 #[.val (.int p0), .val (.int p1), .val (.int p2), .val (.int (0 : Int32)), .val (.ref c_OUTPUT), .val (.ref b82), .val (.ref b92), .val (.int (0 : Int32)), .unset] [(.ref b92)]))
      obtain ⟨v98, T98, L98, X98, hQ98, st98⟩ := own_callV X96 hx hZ (argsL := []) (rest := []) (rm_de l Z a0 hw b92 c_OUTPUT T94.heap n0 O94 F94_0) hown (hw _ (List.mem_of_getElem? (i := 66) rfl)) (hw _ (List.mem_of_getElem? (i := 67) rfl)) (notFace_of_selects (args := #[]) (mvT hZ (hw _ (List.mem_of_getElem? (i := 69) rfl)))) (hw _ (List.mem_of_getElem? (i := 69) rfl)) (hw _ (List.mem_of_getElem? (i := 68) rfl)) (hw _ (List.mem_of_getElem? (i := 31) rfl)) (hw _ (List.mem_of_getElem? (i := 70) rfl)) (by decide) eq96 f97 (g := (mkF m 99 #[.val (.int p0), .val (.int p1), .val (.int p2), .val (.int (0 : Int32)), .val (.ref c_OUTPUT), .val (.ref b82), .val (.ref b92), .val (.int (0 : Int32)), .unset] [(.ref b92)])) rfl (by rw [hml]; rfl) (lenOf own_pd__28_29Lcom_2fexample_2fbridgr_2fbridgr_2fspec_2fSection_3b rfl) rfl (W := 0) (by show 2 * 0 + _ ≤ _; exact Nat.le_of_eq rfl) (hb hby at_99) (by decide) (by decide) (by decide) (by decide)
      obtain ⟨rfl, Nq98, eq98⟩ := hQ98
      have N98 := Fr.app N96 Nq98
      refine own_st st98 ?_
      show own_go _ _ _ _ _ _ _ (T98.setTop (mkF m 102 #[.val (.int p0), .val (.int p1), .val (.int p2), .val (.int (0 : Int32)), .val (.ref c_OUTPUT), .val (.ref b82), .val (.ref b92), .val (.int (0 : Int32)), .unset] [(.ref c_OUTPUT)]))
      obtain ⟨T99, X99, e99, st99⟩ := getS2 X98 hx hZ hown (host := "") (Or.inl (hw _ (List.mem_of_getElem? (i := 71) rfl))) Via.refl eq98 (hS.2.2.1.ext O94.2) (g := (mkF m 102 #[.val (.int p0), .val (.int p1), .val (.int p2), .val (.int (0 : Int32)), .val (.ref c_OUTPUT), .val (.ref b82), .val (.ref b92), .val (.int (0 : Int32)), .unset] [(.ref c_OUTPUT)])) rfl (hb hby at_102)
      refine own_st st99 ?_
      show own_go _ _ _ _ _ _ _ (T99.setTop (mkF m 105 #[.val (.int p0), .val (.int p1), .val (.int p2), .val (.int (0 : Int32)), .val (.ref c_OUTPUT), .val (.ref b82), .val (.ref b92), .val (.int (0 : Int32)), .unset] [(.ref c_INPUT), (.ref c_OUTPUT)]))
      refine own_st (fun _ k => Jvm.RoadKit.acmp (g := (mkF m 105 #[.val (.int p0), .val (.int p1), .val (.int p2), .val (.int (0 : Int32)), .val (.ref c_OUTPUT), .val (.ref b82), .val (.ref b92), .val (.int (0 : Int32)), .unset] [(.ref c_INPUT), (.ref c_OUTPUT)])) X99 hx rfl rfl rfl (pc0 := 105) (pc' := 112) (same := false) rfl (hb hby at_105) rfl (decide_eq_false fun q => (own_ne hS.2.2.2.2.1 hS.2.2.2.2.2.1 (by decide)) (Value.ref.inj q)) (by decide) (by decide) k) ?_
      show own_go _ _ _ _ _ _ _ (T99.setTop (mkF m 112 #[.val (.int p0), .val (.int p1), .val (.int p2), .val (.int (0 : Int32)), .val (.ref c_OUTPUT), .val (.ref b82), .val (.ref b92), .val (.int (0 : Int32)), .unset] []))
      refine own_st (fun _ k => XS.iconst X99.here hx rfl (hb hby at_112) k) ?_
      show own_go _ _ _ _ _ _ _ (T99.setTop (mkF m 113 #[.val (.int p0), .val (.int p1), .val (.int p2), .val (.int (0 : Int32)), .val (.ref c_OUTPUT), .val (.ref b82), .val (.ref b92), .val (.int (0 : Int32)), .unset] [(.int (0 : Int32))]))
      refine own_st (fun _ k => XS.istore X99.here hx rfl (hb hby at_113) rfl (l' := #[.val (.int p0), .val (.int p1), .val (.int p2), .val (.int (0 : Int32)), .val (.ref c_OUTPUT), .val (.ref b82), .val (.ref b92), .val (.int (0 : Int32)), .val (.int (0 : Int32))]) rfl k) ?_
      show own_go _ _ _ _ _ _ _ (T99.setTop (mkF m 115 #[.val (.int p0), .val (.int p1), .val (.int p2), .val (.int (0 : Int32)), .val (.ref c_OUTPUT), .val (.ref b82), .val (.ref b92), .val (.int (0 : Int32)), .val (.int (0 : Int32))] []))
      refine own_st (fun _ k => XS.iload X99.here hx rfl (hb hby at_115) rfl k) ?_
      show own_go _ _ _ _ _ _ _ (T99.setTop (mkF m 117 #[.val (.int p0), .val (.int p1), .val (.int p2), .val (.int (0 : Int32)), .val (.ref c_OUTPUT), .val (.ref b82), .val (.ref b92), .val (.int (0 : Int32)), .val (.int (0 : Int32))] [(.int (0 : Int32))]))
      refine own_st (fun _ k => XS.iloadN X99.here hx rfl (hb hby at_117) rfl k) ?_
      show own_go _ _ _ _ _ _ _ (T99.setTop (mkF m 118 #[.val (.int p0), .val (.int p1), .val (.int p2), .val (.int (0 : Int32)), .val (.ref c_OUTPUT), .val (.ref b82), .val (.ref b92), .val (.int (0 : Int32)), .val (.int (0 : Int32))] [(.int (0 : Int32)), (.int (0 : Int32))]))
      refine own_st (fun _ k => XS.icmpNo X99.here hx rfl (hb hby at_118) rfl (by decide) k) ?_
      show own_go _ _ _ _ _ _ _ (T99.setTop (mkF m 121 #[.val (.int p0), .val (.int p1), .val (.int p2), .val (.int (0 : Int32)), .val (.ref c_OUTPUT), .val (.ref b82), .val (.ref b92), .val (.int (0 : Int32)), .val (.int (0 : Int32))] []))
      refine own_st (fun _ k => XS.iload X99.here hx rfl (hb hby at_121) rfl k) ?_
      show own_go _ _ _ _ _ _ _ (T99.setTop (mkF m 123 #[.val (.int p0), .val (.int p1), .val (.int p2), .val (.int (0 : Int32)), .val (.ref c_OUTPUT), .val (.ref b82), .val (.ref b92), .val (.int (0 : Int32)), .val (.int (0 : Int32))] [(.int (0 : Int32))]))
      refine own_st (fun _ k => XS.iload X99.here hx rfl (hb hby at_123) rfl k) ?_
      show own_go _ _ _ _ _ _ _ (T99.setTop (mkF m 125 #[.val (.int p0), .val (.int p1), .val (.int p2), .val (.int (0 : Int32)), .val (.ref c_OUTPUT), .val (.ref b82), .val (.ref b92), .val (.int (0 : Int32)), .val (.int (0 : Int32))] [(.int (0 : Int32)), (.int (0 : Int32))]))
      refine own_st (fun _ k => XS.icmpNo X99.here hx rfl (hb hby at_125) rfl (by decide) k) ?_
      show own_go _ _ _ _ _ _ _ (T99.setTop (mkF m 128 #[.val (.int p0), .val (.int p1), .val (.int p2), .val (.int (0 : Int32)), .val (.ref c_OUTPUT), .val (.ref b82), .val (.ref b92), .val (.int (0 : Int32)), .val (.int (0 : Int32))] []))
      refine own_st (fun _ k => XS.iconst X99.here hx rfl (hb hby at_128) k) ?_
      show own_go _ _ _ _ _ _ _ (T99.setTop (mkF m 129 #[.val (.int p0), .val (.int p1), .val (.int p2), .val (.int (0 : Int32)), .val (.ref c_OUTPUT), .val (.ref b82), .val (.ref b92), .val (.int (0 : Int32)), .val (.int (0 : Int32))] [(.int (1 : Int32))]))
      refine own_st (fun _ k => XS.goto X99.here hx rfl (pc0 := 129) (pc' := 133) rfl (hb hby at_129) (by decide) (by decide) k) ?_
      show own_go _ _ _ _ _ _ _ (T99.setTop (mkF m 133 #[.val (.int p0), .val (.int p1), .val (.int p2), .val (.int (0 : Int32)), .val (.ref c_OUTPUT), .val (.ref b82), .val (.ref b92), .val (.int (0 : Int32)), .val (.int (0 : Int32))] [(.int (1 : Int32))]))
      exact own_retN X99 hx hlk (t := .boolean) hret (by simp) rfl (hb hby at_133) (by decide) (by decide) (⟨rfl, N98⟩)
  · skip
    refine own_st (fun _ k => XS.ifNo X0.here hx rfl (hb hby at_3) rfl (XT.i0_eq_f hc71) k) ?_
    show own_go _ _ _ _ _ _ _ (s₁.setTop (mkF m 6 #[.val (.int p0), .val (.int p1), .val (.int p2), .unset, .unset, .unset, .unset, .unset, .unset] []))
    refine own_st (fun _ k => XS.iconst X0.here hx rfl (hb hby at_6) k) ?_
    show own_go _ _ _ _ _ _ _ (s₁.setTop (mkF m 7 #[.val (.int p0), .val (.int p1), .val (.int p2), .unset, .unset, .unset, .unset, .unset, .unset] [(.int (1 : Int32))]))
    refine own_st (fun _ k => XS.goto X0.here hx rfl (pc0 := 7) (pc' := 11) rfl (hb hby at_7) (by decide) (by decide) k) ?_
    show own_go _ _ _ _ _ _ _ (s₁.setTop (mkF m 11 #[.val (.int p0), .val (.int p1), .val (.int p2), .unset, .unset, .unset, .unset, .unset, .unset] [(.int (1 : Int32))]))
    refine own_st (fun _ k => XS.istoreN X0.here hx rfl (hb hby at_11) rfl (l' := #[.val (.int p0), .val (.int p1), .val (.int p2), .val (.int (1 : Int32)), .unset, .unset, .unset, .unset, .unset]) rfl k) ?_
    show own_go _ _ _ _ _ _ _ (s₁.setTop (mkF m 12 #[.val (.int p0), .val (.int p1), .val (.int p2), .val (.int (1 : Int32)), .unset, .unset, .unset, .unset, .unset] []))
    refine own_st (fun _ k => XS.iloadN X0.here hx rfl (hb hby at_12) rfl k) ?_
    show own_go _ _ _ _ _ _ _ (s₁.setTop (mkF m 13 #[.val (.int p0), .val (.int p1), .val (.int p2), .val (.int (1 : Int32)), .unset, .unset, .unset, .unset, .unset] [(.int (1 : Int32))]))
    refine own_st (fun _ k => XS.ifNo X0.here hx rfl (hb hby at_13) rfl (by decide) k) ?_
    show own_go _ _ _ _ _ _ _ (s₁.setTop (mkF m 16 #[.val (.int p0), .val (.int p1), .val (.int p2), .val (.int (1 : Int32)), .unset, .unset, .unset, .unset, .unset] []))
    obtain ⟨T100, X100, e100, st100⟩ := getS2 X0 hx hZ hown (host := "") (Or.inl (hw _ (List.mem_of_getElem? (i := 71) rfl))) Via.refl e0 (hS.2.2.1.ext O0.2) (g := (mkF m 16 #[.val (.int p0), .val (.int p1), .val (.int p2), .val (.int (1 : Int32)), .unset, .unset, .unset, .unset, .unset] [])) rfl (hb hby at_16)
    refine own_st st100 ?_
    show own_go _ _ _ _ _ _ _ (T100.setTop (mkF m 19 #[.val (.int p0), .val (.int p1), .val (.int p2), .val (.int (1 : Int32)), .unset, .unset, .unset, .unset, .unset] [(.ref c_INPUT)]))
    refine own_st (fun _ k => XS.goto X100.here hx rfl (pc0 := 19) (pc' := 25) rfl (hb hby at_19) (by decide) (by decide) k) ?_
    show own_go _ _ _ _ _ _ _ (T100.setTop (mkF m 25 #[.val (.int p0), .val (.int p1), .val (.int p2), .val (.int (1 : Int32)), .unset, .unset, .unset, .unset, .unset] [(.ref c_INPUT)]))
    refine own_st (fun _ k => XS.astore X100.here hx rfl (hb hby at_25) rfl rfl (l' := #[.val (.int p0), .val (.int p1), .val (.int p2), .val (.int (1 : Int32)), .val (.ref c_INPUT), .unset, .unset, .unset, .unset]) rfl k) ?_
    show own_go _ _ _ _ _ _ _ (T100.setTop (mkF m 27 #[.val (.int p0), .val (.int p1), .val (.int p2), .val (.int (1 : Int32)), .val (.ref c_INPUT), .unset, .unset, .unset, .unset] []))
    refine own_st (fun _ k => XS.iloadN X100.here hx rfl (hb hby at_27) rfl k) ?_
    show own_go _ _ _ _ _ _ _ (T100.setTop (mkF m 28 #[.val (.int p0), .val (.int p1), .val (.int p2), .val (.int (1 : Int32)), .val (.ref c_INPUT), .unset, .unset, .unset, .unset] [(.int p0)]))
    refine own_st (fun _ k => XS.iconst X100.here hx rfl (hb hby at_28) k) ?_
    show own_go _ _ _ _ _ _ _ (T100.setTop (mkF m 29 #[.val (.int p0), .val (.int p1), .val (.int p2), .val (.int (1 : Int32)), .val (.ref c_INPUT), .unset, .unset, .unset, .unset] [(.int (2 : Int32)), (.int p0)]))
    refine own_st (fun _ k => XS.iand X100.here hx rfl (hb hby at_29) rfl k) ?_
    show own_go _ _ _ _ _ _ _ (T100.setTop (mkF m 30 #[.val (.int p0), .val (.int p1), .val (.int p2), .val (.int (1 : Int32)), .val (.ref c_INPUT), .unset, .unset, .unset, .unset] [(.int (p0 &&& (2 : Int32)))]))
    by_cases hc101 : (p0 &&& (2 : Int32)) = (0 : Int32)
    · skip
      refine own_st (fun _ k => XS.ifYes X100.here hx rfl (pc0 := 30) (pc' := 66) rfl (hb hby at_30) rfl (XT.i0_eq_t hc101) (by decide) (by decide) k) ?_
      show own_go _ _ _ _ _ _ _ (T100.setTop (mkF m 66 #[.val (.int p0), .val (.int p1), .val (.int p2), .val (.int (1 : Int32)), .val (.ref c_INPUT), .unset, .unset, .unset, .unset] []))
      refine own_st (fun _ k => XS.iloadN X100.here hx rfl (hb hby at_66) rfl k) ?_
      show own_go _ _ _ _ _ _ _ (T100.setTop (mkF m 67 #[.val (.int p0), .val (.int p1), .val (.int p2), .val (.int (1 : Int32)), .val (.ref c_INPUT), .unset, .unset, .unset, .unset] [(.int p1)]))
      refine own_st (fun _ k => XS.sipush X100.here hx rfl (hb hby at_67) k) ?_
      show own_go _ _ _ _ _ _ _ (T100.setTop (mkF m 70 #[.val (.int p0), .val (.int p1), .val (.int p2), .val (.int (1 : Int32)), .val (.ref c_INPUT), .unset, .unset, .unset, .unset] [(.int (255 : Int32)), (.int p1)]))
      refine own_st (fun _ k => XS.iand X100.here hx rfl (hb hby at_70) rfl k) ?_
      show own_go _ _ _ _ _ _ _ (T100.setTop (mkF m 71 #[.val (.int p0), .val (.int p1), .val (.int p2), .val (.int (1 : Int32)), .val (.ref c_INPUT), .unset, .unset, .unset, .unset] [(.int (p1 &&& (255 : Int32)))]))
      refine own_st (fun _ k => XS.i2c X100.here hx rfl (hb hby at_71) rfl k) ?_
      show own_go _ _ _ _ _ _ _ (T100.setTop (mkF m 72 #[.val (.int p0), .val (.int p1), .val (.int p2), .val (.int (1 : Int32)), .val (.ref c_INPUT), .unset, .unset, .unset, .unset] [(.int ((p1 &&& (255 : Int32)).toUInt32.toUInt16.toUInt32.toInt32))]))
      rw [i2c_mask]
      show own_go _ _ _ _ _ _ _ (T100.setTop (mkF m 72 #[.val (.int p0), .val (.int p1), .val (.int p2), .val (.int (1 : Int32)), .val (.ref c_INPUT), .unset, .unset, .unset, .unset] [(.int (p1 &&& (255 : Int32)))]))
      obtain ⟨v102, T102, L102, X102, hQ102, st102⟩ := own_callS X100 hx hZ (argsL := [(.int (p1 &&& (255 : Int32)))]) (rest := []) (rm_valueOf l Z a0 hw (p1 &&& (255 : Int32)) c_OUTPUT c_INPUT z_COMPACT_STRINGS h0 n0 O0 hS (own_255 _)) hown (hw _ (List.mem_of_getElem? (i := 3) rfl)) (hw _ (List.mem_of_getElem? (i := 4) rfl)) (hw _ (List.mem_of_getElem? (i := 5) rfl)) (hw _ (List.mem_of_getElem? (i := 6) rfl)) (by decide) e100 (g := (mkF m 72 #[.val (.int p0), .val (.int p1), .val (.int p2), .val (.int (1 : Int32)), .val (.ref c_INPUT), .unset, .unset, .unset, .unset] [(.int (p1 &&& (255 : Int32)))])) rfl (by rw [hml]; rfl) (lenOf own_pd__28C_29Ljava_2flang_2fString_3b rfl) rfl (W := 0) (by show 2 * 0 + _ ≤ _; exact Nat.le_of_eq rfl) (hb hby at_72) (by decide) (by decide) (by decide) (by decide)
      obtain ⟨r102, rfl, Nq102, Kq102, sz102, A102⟩ := hQ102
      have N102 := Fr.app N0 Nq102
      have O102 := O0.keep Kq102 all0
      have K102 := K0.trans Kq102 all0
      refine own_st st102 ?_
      show own_go _ _ _ _ _ _ _ (T102.setTop (mkF m 75 #[.val (.int p0), .val (.int p1), .val (.int p2), .val (.int (1 : Int32)), .val (.ref c_INPUT), .unset, .unset, .unset, .unset] [(.ref r102)]))
      refine own_st (fun _ k => XS.astore X102.here hx rfl (hb hby at_75) rfl rfl (l' := #[.val (.int p0), .val (.int p1), .val (.int p2), .val (.int (1 : Int32)), .val (.ref c_INPUT), .val (.ref r102), .unset, .unset, .unset]) rfl k) ?_
      show own_go _ _ _ _ _ _ _ (T102.setTop (mkF m 77 #[.val (.int p0), .val (.int p1), .val (.int p2), .val (.int (1 : Int32)), .val (.ref c_INPUT), .val (.ref r102), .unset, .unset, .unset] []))
      obtain ⟨T103, h103, X103, e103, E103, A103, D103, -, st103⟩ := newO X102 hx hZ hown (hw _ (List.mem_of_getElem? (i := 29) rfl)) (hw _ (List.mem_of_getElem? (i := 30) rfl)) (hw _ (List.mem_of_getElem? (i := 31) rfl)) rfl (g := (mkF m 77 #[.val (.int p0), .val (.int p1), .val (.int p2), .val (.int (1 : Int32)), .val (.ref c_INPUT), .val (.ref r102), .unset, .unset, .unset] [])) rfl (hb hby at_77) (by decide) (by decide)
      obtain ⟨b103, g103⟩ : ∃ z, z = T102.heap.size := ⟨_, rfl⟩
      rw [← g103] at A103 D103 st103
      have ge_b103 : n0 ≤ b103 := by rw [g103]; exact own_osz O102
      have sz_b103 : h0.size ≤ b103 := by rw [g103]; exact K102.1
      have ne_r102_b103 : r102 ≠ b103 := (fun q => absurd A102.lt (by rw [q, g103]; exact Nat.lt_irrefl _))
      have O103 := O102.ext E103
      have K103 := K102.ext E103
      refine own_st st103 ?_
      show own_go _ _ _ _ _ _ _ (T103.setTop (mkF m 80 #[.val (.int p0), .val (.int p1), .val (.int p2), .val (.int (1 : Int32)), .val (.ref c_INPUT), .val (.ref r102), .unset, .unset, .unset] [(.ref b103)]))
      refine own_st (fun _ k => XS.dup X103.here hx rfl (hb hby at_80) rfl rfl k) ?_
      show own_go _ _ _ _ _ _ _ (T103.setTop (mkF m 81 #[.val (.int p0), .val (.int p1), .val (.int p2), .val (.int (1 : Int32)), .val (.ref c_INPUT), .val (.ref r102), .unset, .unset, .unset] [(.ref b103), (.ref b103)]))
      refine own_st (fun _ k => XS.aload X103.here hx rfl (hb hby at_81) rfl rfl k) ?_
      show own_go _ _ _ _ _ _ _ (T103.setTop (mkF m 83 #[.val (.int p0), .val (.int p1), .val (.int p2), .val (.int (1 : Int32)), .val (.ref c_INPUT), .val (.ref r102), .unset, .unset, .unset] [(.ref r102), (.ref b103), (.ref b103)]))
      refine own_st (fun _ k => XS.aload X103.here hx rfl (hb hby at_83) rfl rfl k) ?_
      show own_go _ _ _ _ _ _ _ (T103.setTop (mkF m 85 #[.val (.int p0), .val (.int p1), .val (.int p2), .val (.int (1 : Int32)), .val (.ref c_INPUT), .val (.ref r102), .unset, .unset, .unset] [(.ref c_INPUT), (.ref r102), (.ref b103), (.ref b103)]))
      have f105 := (A102.ext E103)
      obtain ⟨v104, T104, L104, X104, hQ104, st104⟩ := own_callN X103 hx hZ (argsL := [(.ref r102), (.ref c_INPUT)]) (rest := [(.ref b103)]) (rm_vi_0 l Z a0 hw b103 r102 c_OUTPUT c_INPUT z_COMPACT_STRINGS h103 n0 O103 ge_b103 A103 f105 (D103 (Or.inr (hw _ (List.mem_of_getElem? (i := 42) rfl))) (ty := (.object "java/lang/String")) (by decide)) (D103 (Or.inr (hw _ (List.mem_of_getElem? (i := 55) rfl))) (ty := (.object "com/example/bridgr/bridgr/spec/Section")) (by decide)) (D103 (Or.inr (hw _ (List.mem_of_getElem? (i := 57) rfl))) (ty := (.object "java/math/BigInteger")) (by decide)) (D103 (Or.inr (hw _ (List.mem_of_getElem? (i := 59) rfl))) (ty := (.object "java/math/BigInteger")) (by decide)) hS) rfl hown (hw _ (List.mem_of_getElem? (i := 32) rfl)) (hw _ (List.mem_of_getElem? (i := 33) rfl)) (hw _ (List.mem_of_getElem? (i := 31) rfl)) (hw _ (List.mem_of_getElem? (i := 34) rfl)) (by decide) e103 (g := (mkF m 85 #[.val (.int p0), .val (.int p1), .val (.int p2), .val (.int (1 : Int32)), .val (.ref c_INPUT), .val (.ref r102), .unset, .unset, .unset] [(.ref c_INPUT), (.ref r102), (.ref b103), (.ref b103)])) rfl (by rw [hml]; rfl) (lenOf own_pd__28Ljava_2flang_2fString_3bLcom_2fexample_2fbridgr_2fbridgr_2fspec_2fSection_3b_29V rfl) rfl (W := 1) (by show 2 * 0 + _ ≤ _; exact Nat.le_of_eq rfl) (hb hby at_85) (by decide) (by decide) (by decide) (by decide)
      obtain ⟨rfl, Nq104, Kq104, F104_0⟩ := hQ104
      have N104 := Fr.app N102 Nq104
      have O104 := O103.keep Kq104 (allS ge_b103 all0)
      have K104 := K103.trans Kq104 (allS (Or.inr sz_b103) all0)
      refine own_st st104 ?_
      show own_go _ _ _ _ _ _ _ (T104.setTop (mkF m 88 #[.val (.int p0), .val (.int p1), .val (.int p2), .val (.int (1 : Int32)), .val (.ref c_INPUT), .val (.ref r102), .unset, .unset, .unset] [(.ref b103)]))
      refine own_st (fun _ k => XS.astore X104.here hx rfl (hb hby at_88) rfl rfl (l' := #[.val (.int p0), .val (.int p1), .val (.int p2), .val (.int (1 : Int32)), .val (.ref c_INPUT), .val (.ref r102), .val (.ref b103), .unset, .unset]) rfl k) ?_
      show own_go _ _ _ _ _ _ _ (T104.setTop (mkF m 90 #[.val (.int p0), .val (.int p1), .val (.int p2), .val (.int (1 : Int32)), .val (.ref c_INPUT), .val (.ref r102), .val (.ref b103), .unset, .unset] []))
      refine own_st (fun _ k => XS.aload X104.here hx rfl (hb hby at_90) rfl rfl k) ?_
      show own_go _ _ _ _ _ _ _ (T104.setTop (mkF m 92 #[.val (.int p0), .val (.int p1), .val (.int p2), .val (.int (1 : Int32)), .val (.ref c_INPUT), .val (.ref r102), .val (.ref b103), .unset, .unset] [(.ref b103)]))
      have f107 := (A103.keep Kq104)
      obtain ⟨v106, T106, L106, X106, hQ106, st106⟩ := own_callV X104 hx hZ (argsL := []) (rest := []) (rm_ii_0 l Z a0 hw b103 c_OUTPUT c_INPUT z_COMPACT_STRINGS T104.heap n0 O104 hS F104_0) hown (hw _ (List.mem_of_getElem? (i := 60) rfl)) (hw _ (List.mem_of_getElem? (i := 61) rfl)) (notFace_of_selects (args := #[]) (mvT hZ (hw _ (List.mem_of_getElem? (i := 63) rfl)))) (hw _ (List.mem_of_getElem? (i := 63) rfl)) (hw _ (List.mem_of_getElem? (i := 62) rfl)) (hw _ (List.mem_of_getElem? (i := 31) rfl)) (hw _ (List.mem_of_getElem? (i := 64) rfl)) (by decide) rfl f107 (g := (mkF m 92 #[.val (.int p0), .val (.int p1), .val (.int p2), .val (.int (1 : Int32)), .val (.ref c_INPUT), .val (.ref r102), .val (.ref b103), .unset, .unset] [(.ref b103)])) rfl (by rw [hml]; rfl) (lenOf own_pd__28_29Z rfl) rfl (W := 0) (by show 2 * 0 + _ ≤ _; exact Nat.le_of_eq rfl) (hb hby at_92) (by decide) (by decide) (by decide) (by decide)
      obtain ⟨rfl, Nq106, eq106⟩ := hQ106
      have N106 := Fr.app N104 Nq106
      refine own_st st106 ?_
      show own_go _ _ _ _ _ _ _ (T106.setTop (mkF m 95 #[.val (.int p0), .val (.int p1), .val (.int p2), .val (.int (1 : Int32)), .val (.ref c_INPUT), .val (.ref r102), .val (.ref b103), .unset, .unset] [(.int (1 : Int32))]))
      refine own_st (fun _ k => XS.istore X106.here hx rfl (hb hby at_95) rfl (l' := #[.val (.int p0), .val (.int p1), .val (.int p2), .val (.int (1 : Int32)), .val (.ref c_INPUT), .val (.ref r102), .val (.ref b103), .val (.int (1 : Int32)), .unset]) rfl k) ?_
      show own_go _ _ _ _ _ _ _ (T106.setTop (mkF m 97 #[.val (.int p0), .val (.int p1), .val (.int p2), .val (.int (1 : Int32)), .val (.ref c_INPUT), .val (.ref r102), .val (.ref b103), .val (.int (1 : Int32)), .unset] []))
      refine own_st (fun _ k => XS.aload X106.here hx rfl (hb hby at_97) rfl rfl k) ?_
      show own_go _ _ _ _ _ _ _ (T106.setTop (mkF m 99 #[.val (.int p0), .val (.int p1), .val (.int p2), .val (.int (1 : Int32)), .val (.ref c_INPUT), .val (.ref r102), .val (.ref b103), .val (.int (1 : Int32)), .unset] [(.ref b103)]))
      obtain ⟨v108, T108, L108, X108, hQ108, st108⟩ := own_callV X106 hx hZ (argsL := []) (rest := []) (rm_de l Z a0 hw b103 c_INPUT T104.heap n0 O104 F104_0) hown (hw _ (List.mem_of_getElem? (i := 66) rfl)) (hw _ (List.mem_of_getElem? (i := 67) rfl)) (notFace_of_selects (args := #[]) (mvT hZ (hw _ (List.mem_of_getElem? (i := 69) rfl)))) (hw _ (List.mem_of_getElem? (i := 69) rfl)) (hw _ (List.mem_of_getElem? (i := 68) rfl)) (hw _ (List.mem_of_getElem? (i := 31) rfl)) (hw _ (List.mem_of_getElem? (i := 70) rfl)) (by decide) eq106 f107 (g := (mkF m 99 #[.val (.int p0), .val (.int p1), .val (.int p2), .val (.int (1 : Int32)), .val (.ref c_INPUT), .val (.ref r102), .val (.ref b103), .val (.int (1 : Int32)), .unset] [(.ref b103)])) rfl (by rw [hml]; rfl) (lenOf own_pd__28_29Lcom_2fexample_2fbridgr_2fbridgr_2fspec_2fSection_3b rfl) rfl (W := 0) (by show 2 * 0 + _ ≤ _; exact Nat.le_of_eq rfl) (hb hby at_99) (by decide) (by decide) (by decide) (by decide)
      obtain ⟨rfl, Nq108, eq108⟩ := hQ108
      have N108 := Fr.app N106 Nq108
      refine own_st st108 ?_
      show own_go _ _ _ _ _ _ _ (T108.setTop (mkF m 102 #[.val (.int p0), .val (.int p1), .val (.int p2), .val (.int (1 : Int32)), .val (.ref c_INPUT), .val (.ref r102), .val (.ref b103), .val (.int (1 : Int32)), .unset] [(.ref c_INPUT)]))
      obtain ⟨T109, X109, e109, st109⟩ := getS2 X108 hx hZ hown (host := "") (Or.inl (hw _ (List.mem_of_getElem? (i := 71) rfl))) Via.refl eq108 (hS.2.2.1.ext O104.2) (g := (mkF m 102 #[.val (.int p0), .val (.int p1), .val (.int p2), .val (.int (1 : Int32)), .val (.ref c_INPUT), .val (.ref r102), .val (.ref b103), .val (.int (1 : Int32)), .unset] [(.ref c_INPUT)])) rfl (hb hby at_102)
      refine own_st st109 ?_
      show own_go _ _ _ _ _ _ _ (T109.setTop (mkF m 105 #[.val (.int p0), .val (.int p1), .val (.int p2), .val (.int (1 : Int32)), .val (.ref c_INPUT), .val (.ref r102), .val (.ref b103), .val (.int (1 : Int32)), .unset] [(.ref c_INPUT), (.ref c_INPUT)]))
      refine own_st (fun _ k => Jvm.RoadKit.acmp (g := (mkF m 105 #[.val (.int p0), .val (.int p1), .val (.int p2), .val (.int (1 : Int32)), .val (.ref c_INPUT), .val (.ref r102), .val (.ref b103), .val (.int (1 : Int32)), .unset] [(.ref c_INPUT), (.ref c_INPUT)])) X109 hx rfl rfl rfl (pc0 := 105) (pc' := 108) (same := true) rfl (hb hby at_105) rfl (decide_eq_true rfl) (by decide) (by decide) k) ?_
      show own_go _ _ _ _ _ _ _ (T109.setTop (mkF m 108 #[.val (.int p0), .val (.int p1), .val (.int p2), .val (.int (1 : Int32)), .val (.ref c_INPUT), .val (.ref r102), .val (.ref b103), .val (.int (1 : Int32)), .unset] []))
      refine own_st (fun _ k => XS.iconst X109.here hx rfl (hb hby at_108) k) ?_
      show own_go _ _ _ _ _ _ _ (T109.setTop (mkF m 109 #[.val (.int p0), .val (.int p1), .val (.int p2), .val (.int (1 : Int32)), .val (.ref c_INPUT), .val (.ref r102), .val (.ref b103), .val (.int (1 : Int32)), .unset] [(.int (1 : Int32))]))
      refine own_st (fun _ k => XS.goto X109.here hx rfl (pc0 := 109) (pc' := 113) rfl (hb hby at_109) (by decide) (by decide) k) ?_
      show own_go _ _ _ _ _ _ _ (T109.setTop (mkF m 113 #[.val (.int p0), .val (.int p1), .val (.int p2), .val (.int (1 : Int32)), .val (.ref c_INPUT), .val (.ref r102), .val (.ref b103), .val (.int (1 : Int32)), .unset] [(.int (1 : Int32))]))
      refine own_st (fun _ k => XS.istore X109.here hx rfl (hb hby at_113) rfl (l' := #[.val (.int p0), .val (.int p1), .val (.int p2), .val (.int (1 : Int32)), .val (.ref c_INPUT), .val (.ref r102), .val (.ref b103), .val (.int (1 : Int32)), .val (.int (1 : Int32))]) rfl k) ?_
      show own_go _ _ _ _ _ _ _ (T109.setTop (mkF m 115 #[.val (.int p0), .val (.int p1), .val (.int p2), .val (.int (1 : Int32)), .val (.ref c_INPUT), .val (.ref r102), .val (.ref b103), .val (.int (1 : Int32)), .val (.int (1 : Int32))] []))
      refine own_st (fun _ k => XS.iload X109.here hx rfl (hb hby at_115) rfl k) ?_
      show own_go _ _ _ _ _ _ _ (T109.setTop (mkF m 117 #[.val (.int p0), .val (.int p1), .val (.int p2), .val (.int (1 : Int32)), .val (.ref c_INPUT), .val (.ref r102), .val (.ref b103), .val (.int (1 : Int32)), .val (.int (1 : Int32))] [(.int (1 : Int32))]))
      refine own_st (fun _ k => XS.iloadN X109.here hx rfl (hb hby at_117) rfl k) ?_
      show own_go _ _ _ _ _ _ _ (T109.setTop (mkF m 118 #[.val (.int p0), .val (.int p1), .val (.int p2), .val (.int (1 : Int32)), .val (.ref c_INPUT), .val (.ref r102), .val (.ref b103), .val (.int (1 : Int32)), .val (.int (1 : Int32))] [(.int (1 : Int32)), (.int (1 : Int32))]))
      refine own_st (fun _ k => XS.icmpNo X109.here hx rfl (hb hby at_118) rfl (by decide) k) ?_
      show own_go _ _ _ _ _ _ _ (T109.setTop (mkF m 121 #[.val (.int p0), .val (.int p1), .val (.int p2), .val (.int (1 : Int32)), .val (.ref c_INPUT), .val (.ref r102), .val (.ref b103), .val (.int (1 : Int32)), .val (.int (1 : Int32))] []))
      refine own_st (fun _ k => XS.iload X109.here hx rfl (hb hby at_121) rfl k) ?_
      show own_go _ _ _ _ _ _ _ (T109.setTop (mkF m 123 #[.val (.int p0), .val (.int p1), .val (.int p2), .val (.int (1 : Int32)), .val (.ref c_INPUT), .val (.ref r102), .val (.ref b103), .val (.int (1 : Int32)), .val (.int (1 : Int32))] [(.int (1 : Int32))]))
      refine own_st (fun _ k => XS.iload X109.here hx rfl (hb hby at_123) rfl k) ?_
      show own_go _ _ _ _ _ _ _ (T109.setTop (mkF m 125 #[.val (.int p0), .val (.int p1), .val (.int p2), .val (.int (1 : Int32)), .val (.ref c_INPUT), .val (.ref r102), .val (.ref b103), .val (.int (1 : Int32)), .val (.int (1 : Int32))] [(.int (1 : Int32)), (.int (1 : Int32))]))
      refine own_st (fun _ k => XS.icmpNo X109.here hx rfl (hb hby at_125) rfl (by decide) k) ?_
      show own_go _ _ _ _ _ _ _ (T109.setTop (mkF m 128 #[.val (.int p0), .val (.int p1), .val (.int p2), .val (.int (1 : Int32)), .val (.ref c_INPUT), .val (.ref r102), .val (.ref b103), .val (.int (1 : Int32)), .val (.int (1 : Int32))] []))
      refine own_st (fun _ k => XS.iconst X109.here hx rfl (hb hby at_128) k) ?_
      show own_go _ _ _ _ _ _ _ (T109.setTop (mkF m 129 #[.val (.int p0), .val (.int p1), .val (.int p2), .val (.int (1 : Int32)), .val (.ref c_INPUT), .val (.ref r102), .val (.ref b103), .val (.int (1 : Int32)), .val (.int (1 : Int32))] [(.int (1 : Int32))]))
      refine own_st (fun _ k => XS.goto X109.here hx rfl (pc0 := 129) (pc' := 133) rfl (hb hby at_129) (by decide) (by decide) k) ?_
      show own_go _ _ _ _ _ _ _ (T109.setTop (mkF m 133 #[.val (.int p0), .val (.int p1), .val (.int p2), .val (.int (1 : Int32)), .val (.ref c_INPUT), .val (.ref r102), .val (.ref b103), .val (.int (1 : Int32)), .val (.int (1 : Int32))] [(.int (1 : Int32))]))
      exact own_retN X109 hx hlk (t := .boolean) hret (by simp) rfl (hb hby at_133) (by decide) (by decide) (⟨rfl, N108⟩)
    · skip
      refine own_st (fun _ k => XS.ifNo X100.here hx rfl (hb hby at_30) rfl (XT.i0_eq_f hc101) k) ?_
      show own_go _ _ _ _ _ _ _ (T100.setTop (mkF m 33 #[.val (.int p0), .val (.int p1), .val (.int p2), .val (.int (1 : Int32)), .val (.ref c_INPUT), .unset, .unset, .unset, .unset] []))
      obtain ⟨T110, h110, X110, e110, E110, A110, D110, -, st110⟩ := newO X100 hx hZ hown (hw _ (List.mem_of_getElem? (i := 72) rfl)) (hw _ (List.mem_of_getElem? (i := 13) rfl)) (hw _ (List.mem_of_getElem? (i := 5) rfl)) e100 (g := (mkF m 33 #[.val (.int p0), .val (.int p1), .val (.int p2), .val (.int (1 : Int32)), .val (.ref c_INPUT), .unset, .unset, .unset, .unset] [])) rfl (hb hby at_33) (by decide) (by decide)
      obtain ⟨b110, g110⟩ : ∃ z, z = h0.size := ⟨_, rfl⟩
      rw [← g110] at A110 D110 st110
      have ge_b110 : n0 ≤ b110 := by rw [g110]; exact own_osz O0
      have sz_b110 : h0.size ≤ b110 := by rw [g110]; exact K0.1
      have O110 := O0.ext E110
      have K110 := K0.ext E110
      refine own_st st110 ?_
      show own_go _ _ _ _ _ _ _ (T110.setTop (mkF m 36 #[.val (.int p0), .val (.int p1), .val (.int p2), .val (.int (1 : Int32)), .val (.ref c_INPUT), .unset, .unset, .unset, .unset] [(.ref b110)]))
      refine own_st (fun _ k => XS.dup X110.here hx rfl (hb hby at_36) rfl rfl k) ?_
      show own_go _ _ _ _ _ _ _ (T110.setTop (mkF m 37 #[.val (.int p0), .val (.int p1), .val (.int p2), .val (.int (1 : Int32)), .val (.ref c_INPUT), .unset, .unset, .unset, .unset] [(.ref b110), (.ref b110)]))
      refine own_st (fun _ k => XS.iconst X110.here hx rfl (hb hby at_37) k) ?_
      show own_go _ _ _ _ _ _ _ (T110.setTop (mkF m 38 #[.val (.int p0), .val (.int p1), .val (.int p2), .val (.int (1 : Int32)), .val (.ref c_INPUT), .unset, .unset, .unset, .unset] [(.int (2 : Int32)), (.ref b110), (.ref b110)]))
      obtain ⟨T111, h111, k111, b111, X111, e111, g111, E111, V111, st111⟩ := own_newP X110 hx hZ (aty := .char) (hw _ (List.mem_of_getElem? (i := 73) rfl)) e110 (g := (mkF m 38 #[.val (.int p0), .val (.int p1), .val (.int p2), .val (.int (1 : Int32)), .val (.ref c_INPUT), .unset, .unset, .unset, .unset] [(.int (2 : Int32)), (.ref b110), (.ref b110)])) rfl (hb hby at_38) rfl (by decide) (cap := 2) (by decide) (by decide) (by decide) (by decide)
      replace V111 : Arv Z h111 b111 k111 .char (2 : Int32) [(.int (0 : Int32)), (.int (0 : Int32))] (.int (0 : Int32)) := V111
      have ge_b111 : n0 ≤ b111 := by rw [g111]; exact own_osz O110
      have sz_b111 : h0.size ≤ b111 := by rw [g111]; exact K110.1
      have ne_b110_b111 : b110 ≠ b111 := (fun q => absurd A110.lt (by rw [q, g111]; exact Nat.lt_irrefl _))
      have O111 := O110.ext E111
      have K111 := K110.ext E111
      refine own_st st111 ?_
      show own_go _ _ _ _ _ _ _ (T111.setTop (mkF m 40 #[.val (.int p0), .val (.int p1), .val (.int p2), .val (.int (1 : Int32)), .val (.ref c_INPUT), .unset, .unset, .unset, .unset] [(.ref b111), (.ref b110), (.ref b110)]))
      refine own_st (fun _ k => XS.dup X111.here hx rfl (hb hby at_40) rfl rfl k) ?_
      show own_go _ _ _ _ _ _ _ (T111.setTop (mkF m 41 #[.val (.int p0), .val (.int p1), .val (.int p2), .val (.int (1 : Int32)), .val (.ref c_INPUT), .unset, .unset, .unset, .unset] [(.ref b111), (.ref b111), (.ref b110), (.ref b110)]))
      refine own_st (fun _ k => XS.iconst X111.here hx rfl (hb hby at_41) k) ?_
      show own_go _ _ _ _ _ _ _ (T111.setTop (mkF m 42 #[.val (.int p0), .val (.int p1), .val (.int p2), .val (.int (1 : Int32)), .val (.ref c_INPUT), .unset, .unset, .unset, .unset] [(.int (0 : Int32)), (.ref b111), (.ref b111), (.ref b110), (.ref b110)]))
      refine own_st (fun _ k => XS.iloadN X111.here hx rfl (hb hby at_42) rfl k) ?_
      show own_go _ _ _ _ _ _ _ (T111.setTop (mkF m 43 #[.val (.int p0), .val (.int p1), .val (.int p2), .val (.int (1 : Int32)), .val (.ref c_INPUT), .unset, .unset, .unset, .unset] [(.int p1), (.int (0 : Int32)), (.ref b111), (.ref b111), (.ref b110), (.ref b110)]))
      refine own_st (fun _ k => XS.sipush X111.here hx rfl (hb hby at_43) k) ?_
      show own_go _ _ _ _ _ _ _ (T111.setTop (mkF m 46 #[.val (.int p0), .val (.int p1), .val (.int p2), .val (.int (1 : Int32)), .val (.ref c_INPUT), .unset, .unset, .unset, .unset] [(.int (255 : Int32)), (.int p1), (.int (0 : Int32)), (.ref b111), (.ref b111), (.ref b110), (.ref b110)]))
      refine own_st (fun _ k => XS.iand X111.here hx rfl (hb hby at_46) rfl k) ?_
      show own_go _ _ _ _ _ _ _ (T111.setTop (mkF m 47 #[.val (.int p0), .val (.int p1), .val (.int p2), .val (.int (1 : Int32)), .val (.ref c_INPUT), .unset, .unset, .unset, .unset] [(.int (p1 &&& (255 : Int32))), (.int (0 : Int32)), (.ref b111), (.ref b111), (.ref b110), (.ref b110)]))
      refine own_st (fun _ k => XS.i2c X111.here hx rfl (hb hby at_47) rfl k) ?_
      show own_go _ _ _ _ _ _ _ (T111.setTop (mkF m 48 #[.val (.int p0), .val (.int p1), .val (.int p2), .val (.int (1 : Int32)), .val (.ref c_INPUT), .unset, .unset, .unset, .unset] [(.int ((p1 &&& (255 : Int32)).toUInt32.toUInt16.toUInt32.toInt32)), (.int (0 : Int32)), (.ref b111), (.ref b111), (.ref b110), (.ref b110)]))
      rw [i2c_mask]
      show own_go _ _ _ _ _ _ _ (T111.setTop (mkF m 48 #[.val (.int p0), .val (.int p1), .val (.int p2), .val (.int (1 : Int32)), .val (.ref c_INPUT), .unset, .unset, .unset, .unset] [(.int (p1 &&& (255 : Int32))), (.int (0 : Int32)), (.ref b111), (.ref b111), (.ref b110), (.ref b110)]))
      obtain ⟨T112, h112, X112, e112, W112, V112, st112⟩ := own_putC X111 hx hZ e111 V111 (y := (p1 &&& (255 : Int32))) (i2c_mask _) (j := (0 : Int32)) (by decide) 0 (by decide) (by show 0 < 2; decide) (g := (mkF m 48 #[.val (.int p0), .val (.int p1), .val (.int p2), .val (.int (1 : Int32)), .val (.ref c_INPUT), .unset, .unset, .unset, .unset] [(.int (p1 &&& (255 : Int32))), (.int (0 : Int32)), (.ref b111), (.ref b111), (.ref b110), (.ref b110)])) rfl rfl (hb hby at_48)
      have N112 := Fr.snoc X112 N0 ge_b111
      replace V112 : Arv Z h112 b111 k111 .char (2 : Int32) [(.int (p1 &&& (255 : Int32))), (.int (0 : Int32))] (.int (0 : Int32)) := V112
      have O113 := O111.wr W112 ge_b111
      have K113 := K111.wr W112 (Or.inr sz_b111)
      refine own_st st112 ?_
      show own_go _ _ _ _ _ _ _ (T112.setTop (mkF m 49 #[.val (.int p0), .val (.int p1), .val (.int p2), .val (.int (1 : Int32)), .val (.ref c_INPUT), .unset, .unset, .unset, .unset] [(.ref b111), (.ref b110), (.ref b110)]))
      refine own_st (fun _ k => XS.dup X112.here hx rfl (hb hby at_49) rfl rfl k) ?_
      show own_go _ _ _ _ _ _ _ (T112.setTop (mkF m 50 #[.val (.int p0), .val (.int p1), .val (.int p2), .val (.int (1 : Int32)), .val (.ref c_INPUT), .unset, .unset, .unset, .unset] [(.ref b111), (.ref b111), (.ref b110), (.ref b110)]))
      refine own_st (fun _ k => XS.iconst X112.here hx rfl (hb hby at_50) k) ?_
      show own_go _ _ _ _ _ _ _ (T112.setTop (mkF m 51 #[.val (.int p0), .val (.int p1), .val (.int p2), .val (.int (1 : Int32)), .val (.ref c_INPUT), .unset, .unset, .unset, .unset] [(.int (1 : Int32)), (.ref b111), (.ref b111), (.ref b110), (.ref b110)]))
      refine own_st (fun _ k => XS.iloadN X112.here hx rfl (hb hby at_51) rfl k) ?_
      show own_go _ _ _ _ _ _ _ (T112.setTop (mkF m 52 #[.val (.int p0), .val (.int p1), .val (.int p2), .val (.int (1 : Int32)), .val (.ref c_INPUT), .unset, .unset, .unset, .unset] [(.int p2), (.int (1 : Int32)), (.ref b111), (.ref b111), (.ref b110), (.ref b110)]))
      refine own_st (fun _ k => XS.sipush X112.here hx rfl (hb hby at_52) k) ?_
      show own_go _ _ _ _ _ _ _ (T112.setTop (mkF m 55 #[.val (.int p0), .val (.int p1), .val (.int p2), .val (.int (1 : Int32)), .val (.ref c_INPUT), .unset, .unset, .unset, .unset] [(.int (255 : Int32)), (.int p2), (.int (1 : Int32)), (.ref b111), (.ref b111), (.ref b110), (.ref b110)]))
      refine own_st (fun _ k => XS.iand X112.here hx rfl (hb hby at_55) rfl k) ?_
      show own_go _ _ _ _ _ _ _ (T112.setTop (mkF m 56 #[.val (.int p0), .val (.int p1), .val (.int p2), .val (.int (1 : Int32)), .val (.ref c_INPUT), .unset, .unset, .unset, .unset] [(.int (p2 &&& (255 : Int32))), (.int (1 : Int32)), (.ref b111), (.ref b111), (.ref b110), (.ref b110)]))
      refine own_st (fun _ k => XS.i2c X112.here hx rfl (hb hby at_56) rfl k) ?_
      show own_go _ _ _ _ _ _ _ (T112.setTop (mkF m 57 #[.val (.int p0), .val (.int p1), .val (.int p2), .val (.int (1 : Int32)), .val (.ref c_INPUT), .unset, .unset, .unset, .unset] [(.int ((p2 &&& (255 : Int32)).toUInt32.toUInt16.toUInt32.toInt32)), (.int (1 : Int32)), (.ref b111), (.ref b111), (.ref b110), (.ref b110)]))
      rw [i2c_mask]
      show own_go _ _ _ _ _ _ _ (T112.setTop (mkF m 57 #[.val (.int p0), .val (.int p1), .val (.int p2), .val (.int (1 : Int32)), .val (.ref c_INPUT), .unset, .unset, .unset, .unset] [(.int (p2 &&& (255 : Int32))), (.int (1 : Int32)), (.ref b111), (.ref b111), (.ref b110), (.ref b110)]))
      obtain ⟨T114, h114, X114, e114, W114, V114, st114⟩ := own_putC X112 hx hZ e112 V112 (y := (p2 &&& (255 : Int32))) (i2c_mask _) (j := (1 : Int32)) (by decide) 1 (by decide) (by show 1 < 2; decide) (g := (mkF m 57 #[.val (.int p0), .val (.int p1), .val (.int p2), .val (.int (1 : Int32)), .val (.ref c_INPUT), .unset, .unset, .unset, .unset] [(.int (p2 &&& (255 : Int32))), (.int (1 : Int32)), (.ref b111), (.ref b111), (.ref b110), (.ref b110)])) rfl rfl (hb hby at_57)
      have N114 := Fr.snoc X114 N112 ge_b111
      replace V114 : Arv Z h114 b111 k111 .char (2 : Int32) [(.int (p1 &&& (255 : Int32))), (.int (p2 &&& (255 : Int32)))] (.int (0 : Int32)) := V114
      have O115 := O113.wr W114 ge_b111
      have K115 := K113.wr W114 (Or.inr sz_b111)
      refine own_st st114 ?_
      show own_go _ _ _ _ _ _ _ (T114.setTop (mkF m 58 #[.val (.int p0), .val (.int p1), .val (.int p2), .val (.int (1 : Int32)), .val (.ref c_INPUT), .unset, .unset, .unset, .unset] [(.ref b111), (.ref b110), (.ref b110)]))
      have hws116 : ∀ d ∈ StrChars.Road.words, d.before a0 Z = true := fun d hd => hw d ((by decide +kernel : ∀ d ∈ StrChars.Road.words, d ∈ tables_1) d hd)
      have hlat116 : ∀ c ∈ [(p1 &&& (255 : Int32)), (p2 &&& (255 : Int32))], ¬ c < 0 ∧ ¬ (255 : Int32) < c := by
        intro c hc
        simp only [List.mem_cons, List.not_mem_nil, or_false] at hc
        rcases hc with rfl | rfl
        · exact own_p255 _
        · exact own_p255 _
      have f117 := (((A110.ext E111).wr W112).wr W114)
      have f118 := ((((D110 (Or.inr (hw _ (List.mem_of_getElem? (i := 26) rfl))) (ty := (.array .byte)) (by decide)).ext E111).other W112 (Or.inl ne_b110_b111)).other W114 (Or.inl ne_b110_b111))
      have f119 := ((((D110 (Or.inr (hw _ (List.mem_of_getElem? (i := 28) rfl))) (ty := .byte) (by decide)).ext E111).other W112 (Or.inl ne_b110_b111)).other W114 (Or.inl ne_b110_b111))
      obtain ⟨v116, _, ⟨T116, L116, k116, n116⟩, -, X116, ⟨Lc116, hQ116, l116, y116, z116⟩, st116⟩ := X114.specialBack hx (y := (⟨"java/lang/String", "<init>", "([C)V"⟩ : MethodName)) rfl hown (mvT hZ (hw _ (List.mem_of_getElem? (i := 74) rfl))) (mvT hZ (hw _ (List.mem_of_getElem? (i := 75) rfl))) (mvT hZ (hw _ (List.mem_of_getElem? (i := 76) rfl))) (by decide) (StrChars.Road.backV (W := 1) hZ hws116 (kI := 4) (hw _ (List.mem_of_getElem? (i := 13) rfl)) (cs := [(p1 &&& (255 : Int32)), (p2 &&& (255 : Int32))]) (bs := [((p1 &&& (255 : Int32))).toInt8.toInt32, ((p2 &&& (255 : Int32))).toInt8.toInt32]) (n := 2) ge_b110 (own_osz O115) f117 f118 f119 V114 (hS.2.2.2.2.2.2.1.ext O115.2) hS.2.2.2.2.2.2.2 rfl rfl (by decide) (by decide) hlat116 rfl (by decide) (by decide)) (g := (mkF m 58 #[.val (.int p0), .val (.int p1), .val (.int p2), .val (.int (1 : Int32)), .val (.ref c_INPUT), .unset, .unset, .unset, .unset] [(.ref b111), (.ref b110), (.ref b110)])) rfl (by rw [hml]; rfl) (Steps.refl _) (a := b110) (argsL := [(.ref b111)]) (rest := [(.ref b110)]) (lenOf own_pd__28_5bC_29V rfl) rfl (by show 2 * 0 + _ ≤ _; exact Nat.le_of_eq rfl) (hb hby at_58) (fun _ _ => ⟨rfl, e114, (by decide : 2 + 1 ≤ _), (by decide : 6 + 2 ≤ _)⟩)
      dsimp only [Pt.U, Pt.locs, Pt.cells, Pt.slots] at X116 l116 y116 z116 st116 hQ116
      subst l116 y116 z116
      obtain ⟨rfl, Nq116, Kq116, A116, C116, t116, kb116, gt116, szt116, net116, U116, Vt116⟩ := hQ116
      have N116 := Fr.app N114 Nq116
      have ne_b110_t116 : b110 ≠ t116 := (Nat.ne_of_lt (Nat.lt_of_lt_of_le f117.lt szt116))
      have ne_b111_t116 : b111 ≠ t116 := (Nat.ne_of_lt (Nat.lt_of_lt_of_le V114.lt szt116))
      have O116 := O115.keep Kq116 (allS ge_b110 all0)
      have K116 := K115.trans Kq116 (allS (Or.inr sz_b110) all0)
      refine own_st (fun _ k => st116.trans k) ?_
      show own_go _ _ _ _ _ _ _ (T116.setTop (mkF m 61 #[.val (.int p0), .val (.int p1), .val (.int p2), .val (.int (1 : Int32)), .val (.ref c_INPUT), .unset, .unset, .unset, .unset] [(.ref b110)]))
      refine own_st (fun _ k => XS.astore X116.here hx rfl (hb hby at_61) rfl rfl (l' := #[.val (.int p0), .val (.int p1), .val (.int p2), .val (.int (1 : Int32)), .val (.ref c_INPUT), .val (.ref b110), .unset, .unset, .unset]) rfl k) ?_
      show own_go _ _ _ _ _ _ _ (T116.setTop (mkF m 63 #[.val (.int p0), .val (.int p1), .val (.int p2), .val (.int (1 : Int32)), .val (.ref c_INPUT), .val (.ref b110), .unset, .unset, .unset] []))
      refine own_st (fun _ k => XS.goto X116.here hx rfl (pc0 := 63) (pc' := 77) rfl (hb hby at_63) (by decide) (by decide) k) ?_
      show own_go _ _ _ _ _ _ _ (T116.setTop (mkF m 77 #[.val (.int p0), .val (.int p1), .val (.int p2), .val (.int (1 : Int32)), .val (.ref c_INPUT), .val (.ref b110), .unset, .unset, .unset] []))
      obtain ⟨T120, h120, X120, e120, E120, A120, D120, -, st120⟩ := newO X116 hx hZ hown (hw _ (List.mem_of_getElem? (i := 29) rfl)) (hw _ (List.mem_of_getElem? (i := 30) rfl)) (hw _ (List.mem_of_getElem? (i := 31) rfl)) rfl (g := (mkF m 77 #[.val (.int p0), .val (.int p1), .val (.int p2), .val (.int (1 : Int32)), .val (.ref c_INPUT), .val (.ref b110), .unset, .unset, .unset] [])) rfl (hb hby at_77) (by decide) (by decide)
      obtain ⟨b120, g120⟩ : ∃ z, z = T116.heap.size := ⟨_, rfl⟩
      rw [← g120] at A120 D120 st120
      have ge_b120 : n0 ≤ b120 := by rw [g120]; exact own_osz O116
      have sz_b120 : h0.size ≤ b120 := by rw [g120]; exact K116.1
      have ne_b110_b120 : b110 ≠ b120 := (fun q => absurd A116.lt (by rw [q, g120]; exact Nat.lt_irrefl _))
      have f121 := (V114.keep Kq116 (ninS (Ne.symm ne_b110_b111) nin0))
      have ne_b111_b120 : b111 ≠ b120 := (fun q => absurd f121.lt (by rw [q, g120]; exact Nat.lt_irrefl _))
      have ne_t116_b120 : t116 ≠ b120 := (fun q => absurd Vt116.lt (by rw [q, g120]; exact Nat.lt_irrefl _))
      have O120 := O116.ext E120
      have K120 := K116.ext E120
      refine own_st st120 ?_
      show own_go _ _ _ _ _ _ _ (T120.setTop (mkF m 80 #[.val (.int p0), .val (.int p1), .val (.int p2), .val (.int (1 : Int32)), .val (.ref c_INPUT), .val (.ref b110), .unset, .unset, .unset] [(.ref b120)]))
      refine own_st (fun _ k => XS.dup X120.here hx rfl (hb hby at_80) rfl rfl k) ?_
      show own_go _ _ _ _ _ _ _ (T120.setTop (mkF m 81 #[.val (.int p0), .val (.int p1), .val (.int p2), .val (.int (1 : Int32)), .val (.ref c_INPUT), .val (.ref b110), .unset, .unset, .unset] [(.ref b120), (.ref b120)]))
      refine own_st (fun _ k => XS.aload X120.here hx rfl (hb hby at_81) rfl rfl k) ?_
      show own_go _ _ _ _ _ _ _ (T120.setTop (mkF m 83 #[.val (.int p0), .val (.int p1), .val (.int p2), .val (.int (1 : Int32)), .val (.ref c_INPUT), .val (.ref b110), .unset, .unset, .unset] [(.ref b110), (.ref b120), (.ref b120)]))
      refine own_st (fun _ k => XS.aload X120.here hx rfl (hb hby at_83) rfl rfl k) ?_
      show own_go _ _ _ _ _ _ _ (T120.setTop (mkF m 85 #[.val (.int p0), .val (.int p1), .val (.int p2), .val (.int (1 : Int32)), .val (.ref c_INPUT), .val (.ref b110), .unset, .unset, .unset] [(.ref c_INPUT), (.ref b110), (.ref b120), (.ref b120)]))
      have f123 := (A116.ext E120)
      obtain ⟨v122, T122, L122, X122, hQ122, st122⟩ := own_callN X120 hx hZ (argsL := [(.ref b110), (.ref c_INPUT)]) (rest := [(.ref b120)]) (rm_vi_0 l Z a0 hw b120 b110 c_OUTPUT c_INPUT z_COMPACT_STRINGS h120 n0 O120 ge_b120 A120 f123 (D120 (Or.inr (hw _ (List.mem_of_getElem? (i := 42) rfl))) (ty := (.object "java/lang/String")) (by decide)) (D120 (Or.inr (hw _ (List.mem_of_getElem? (i := 55) rfl))) (ty := (.object "com/example/bridgr/bridgr/spec/Section")) (by decide)) (D120 (Or.inr (hw _ (List.mem_of_getElem? (i := 57) rfl))) (ty := (.object "java/math/BigInteger")) (by decide)) (D120 (Or.inr (hw _ (List.mem_of_getElem? (i := 59) rfl))) (ty := (.object "java/math/BigInteger")) (by decide)) hS) rfl hown (hw _ (List.mem_of_getElem? (i := 32) rfl)) (hw _ (List.mem_of_getElem? (i := 33) rfl)) (hw _ (List.mem_of_getElem? (i := 31) rfl)) (hw _ (List.mem_of_getElem? (i := 34) rfl)) (by decide) e120 (g := (mkF m 85 #[.val (.int p0), .val (.int p1), .val (.int p2), .val (.int (1 : Int32)), .val (.ref c_INPUT), .val (.ref b110), .unset, .unset, .unset] [(.ref c_INPUT), (.ref b110), (.ref b120), (.ref b120)])) rfl (by rw [hml]; rfl) (lenOf own_pd__28Ljava_2flang_2fString_3bLcom_2fexample_2fbridgr_2fbridgr_2fspec_2fSection_3b_29V rfl) rfl (W := 1) (by show 2 * 0 + _ ≤ _; exact Nat.le_of_eq rfl) (hb hby at_85) (by decide) (by decide) (by decide) (by decide)
      obtain ⟨rfl, Nq122, Kq122, F122_0⟩ := hQ122
      have N122 := Fr.app N116 Nq122
      have O122 := O120.keep Kq122 (allS ge_b120 all0)
      have K122 := K120.trans Kq122 (allS (Or.inr sz_b120) all0)
      refine own_st st122 ?_
      show own_go _ _ _ _ _ _ _ (T122.setTop (mkF m 88 #[.val (.int p0), .val (.int p1), .val (.int p2), .val (.int (1 : Int32)), .val (.ref c_INPUT), .val (.ref b110), .unset, .unset, .unset] [(.ref b120)]))
      refine own_st (fun _ k => XS.astore X122.here hx rfl (hb hby at_88) rfl rfl (l' := #[.val (.int p0), .val (.int p1), .val (.int p2), .val (.int (1 : Int32)), .val (.ref c_INPUT), .val (.ref b110), .val (.ref b120), .unset, .unset]) rfl k) ?_
      show own_go _ _ _ _ _ _ _ (T122.setTop (mkF m 90 #[.val (.int p0), .val (.int p1), .val (.int p2), .val (.int (1 : Int32)), .val (.ref c_INPUT), .val (.ref b110), .val (.ref b120), .unset, .unset] []))
      refine own_st (fun _ k => XS.aload X122.here hx rfl (hb hby at_90) rfl rfl k) ?_
      show own_go _ _ _ _ _ _ _ (T122.setTop (mkF m 92 #[.val (.int p0), .val (.int p1), .val (.int p2), .val (.int (1 : Int32)), .val (.ref c_INPUT), .val (.ref b110), .val (.ref b120), .unset, .unset] [(.ref b120)]))
      have f125 := (A120.keep Kq122)
      obtain ⟨v124, T124, L124, X124, hQ124, st124⟩ := own_callV X122 hx hZ (argsL := []) (rest := []) (rm_ii_0 l Z a0 hw b120 c_OUTPUT c_INPUT z_COMPACT_STRINGS T122.heap n0 O122 hS F122_0) hown (hw _ (List.mem_of_getElem? (i := 60) rfl)) (hw _ (List.mem_of_getElem? (i := 61) rfl)) (notFace_of_selects (args := #[]) (mvT hZ (hw _ (List.mem_of_getElem? (i := 63) rfl)))) (hw _ (List.mem_of_getElem? (i := 63) rfl)) (hw _ (List.mem_of_getElem? (i := 62) rfl)) (hw _ (List.mem_of_getElem? (i := 31) rfl)) (hw _ (List.mem_of_getElem? (i := 64) rfl)) (by decide) rfl f125 (g := (mkF m 92 #[.val (.int p0), .val (.int p1), .val (.int p2), .val (.int (1 : Int32)), .val (.ref c_INPUT), .val (.ref b110), .val (.ref b120), .unset, .unset] [(.ref b120)])) rfl (by rw [hml]; rfl) (lenOf own_pd__28_29Z rfl) rfl (W := 0) (by show 2 * 0 + _ ≤ _; exact Nat.le_of_eq rfl) (hb hby at_92) (by decide) (by decide) (by decide) (by decide)
      obtain ⟨rfl, Nq124, eq124⟩ := hQ124
      have N124 := Fr.app N122 Nq124
      refine own_st st124 ?_
      show own_go _ _ _ _ _ _ _ (T124.setTop (mkF m 95 #[.val (.int p0), .val (.int p1), .val (.int p2), .val (.int (1 : Int32)), .val (.ref c_INPUT), .val (.ref b110), .val (.ref b120), .unset, .unset] [(.int (1 : Int32))]))
      refine own_st (fun _ k => XS.istore X124.here hx rfl (hb hby at_95) rfl (l' := #[.val (.int p0), .val (.int p1), .val (.int p2), .val (.int (1 : Int32)), .val (.ref c_INPUT), .val (.ref b110), .val (.ref b120), .val (.int (1 : Int32)), .unset]) rfl k) ?_
      show own_go _ _ _ _ _ _ _ (T124.setTop (mkF m 97 #[.val (.int p0), .val (.int p1), .val (.int p2), .val (.int (1 : Int32)), .val (.ref c_INPUT), .val (.ref b110), .val (.ref b120), .val (.int (1 : Int32)), .unset] []))
      refine own_st (fun _ k => XS.aload X124.here hx rfl (hb hby at_97) rfl rfl k) ?_
      show own_go _ _ _ _ _ _ _ (T124.setTop (mkF m 99 #[.val (.int p0), .val (.int p1), .val (.int p2), .val (.int (1 : Int32)), .val (.ref c_INPUT), .val (.ref b110), .val (.ref b120), .val (.int (1 : Int32)), .unset] [(.ref b120)]))
      obtain ⟨v126, T126, L126, X126, hQ126, st126⟩ := own_callV X124 hx hZ (argsL := []) (rest := []) (rm_de l Z a0 hw b120 c_INPUT T122.heap n0 O122 F122_0) hown (hw _ (List.mem_of_getElem? (i := 66) rfl)) (hw _ (List.mem_of_getElem? (i := 67) rfl)) (notFace_of_selects (args := #[]) (mvT hZ (hw _ (List.mem_of_getElem? (i := 69) rfl)))) (hw _ (List.mem_of_getElem? (i := 69) rfl)) (hw _ (List.mem_of_getElem? (i := 68) rfl)) (hw _ (List.mem_of_getElem? (i := 31) rfl)) (hw _ (List.mem_of_getElem? (i := 70) rfl)) (by decide) eq124 f125 (g := (mkF m 99 #[.val (.int p0), .val (.int p1), .val (.int p2), .val (.int (1 : Int32)), .val (.ref c_INPUT), .val (.ref b110), .val (.ref b120), .val (.int (1 : Int32)), .unset] [(.ref b120)])) rfl (by rw [hml]; rfl) (lenOf own_pd__28_29Lcom_2fexample_2fbridgr_2fbridgr_2fspec_2fSection_3b rfl) rfl (W := 0) (by show 2 * 0 + _ ≤ _; exact Nat.le_of_eq rfl) (hb hby at_99) (by decide) (by decide) (by decide) (by decide)
      obtain ⟨rfl, Nq126, eq126⟩ := hQ126
      have N126 := Fr.app N124 Nq126
      refine own_st st126 ?_
      show own_go _ _ _ _ _ _ _ (T126.setTop (mkF m 102 #[.val (.int p0), .val (.int p1), .val (.int p2), .val (.int (1 : Int32)), .val (.ref c_INPUT), .val (.ref b110), .val (.ref b120), .val (.int (1 : Int32)), .unset] [(.ref c_INPUT)]))
      obtain ⟨T127, X127, e127, st127⟩ := getS2 X126 hx hZ hown (host := "") (Or.inl (hw _ (List.mem_of_getElem? (i := 71) rfl))) Via.refl eq126 (hS.2.2.1.ext O122.2) (g := (mkF m 102 #[.val (.int p0), .val (.int p1), .val (.int p2), .val (.int (1 : Int32)), .val (.ref c_INPUT), .val (.ref b110), .val (.ref b120), .val (.int (1 : Int32)), .unset] [(.ref c_INPUT)])) rfl (hb hby at_102)
      refine own_st st127 ?_
      show own_go _ _ _ _ _ _ _ (T127.setTop (mkF m 105 #[.val (.int p0), .val (.int p1), .val (.int p2), .val (.int (1 : Int32)), .val (.ref c_INPUT), .val (.ref b110), .val (.ref b120), .val (.int (1 : Int32)), .unset] [(.ref c_INPUT), (.ref c_INPUT)]))
      refine own_st (fun _ k => Jvm.RoadKit.acmp (g := (mkF m 105 #[.val (.int p0), .val (.int p1), .val (.int p2), .val (.int (1 : Int32)), .val (.ref c_INPUT), .val (.ref b110), .val (.ref b120), .val (.int (1 : Int32)), .unset] [(.ref c_INPUT), (.ref c_INPUT)])) X127 hx rfl rfl rfl (pc0 := 105) (pc' := 108) (same := true) rfl (hb hby at_105) rfl (decide_eq_true rfl) (by decide) (by decide) k) ?_
      show own_go _ _ _ _ _ _ _ (T127.setTop (mkF m 108 #[.val (.int p0), .val (.int p1), .val (.int p2), .val (.int (1 : Int32)), .val (.ref c_INPUT), .val (.ref b110), .val (.ref b120), .val (.int (1 : Int32)), .unset] []))
      refine own_st (fun _ k => XS.iconst X127.here hx rfl (hb hby at_108) k) ?_
      show own_go _ _ _ _ _ _ _ (T127.setTop (mkF m 109 #[.val (.int p0), .val (.int p1), .val (.int p2), .val (.int (1 : Int32)), .val (.ref c_INPUT), .val (.ref b110), .val (.ref b120), .val (.int (1 : Int32)), .unset] [(.int (1 : Int32))]))
      refine own_st (fun _ k => XS.goto X127.here hx rfl (pc0 := 109) (pc' := 113) rfl (hb hby at_109) (by decide) (by decide) k) ?_
      show own_go _ _ _ _ _ _ _ (T127.setTop (mkF m 113 #[.val (.int p0), .val (.int p1), .val (.int p2), .val (.int (1 : Int32)), .val (.ref c_INPUT), .val (.ref b110), .val (.ref b120), .val (.int (1 : Int32)), .unset] [(.int (1 : Int32))]))
      refine own_st (fun _ k => XS.istore X127.here hx rfl (hb hby at_113) rfl (l' := #[.val (.int p0), .val (.int p1), .val (.int p2), .val (.int (1 : Int32)), .val (.ref c_INPUT), .val (.ref b110), .val (.ref b120), .val (.int (1 : Int32)), .val (.int (1 : Int32))]) rfl k) ?_
      show own_go _ _ _ _ _ _ _ (T127.setTop (mkF m 115 #[.val (.int p0), .val (.int p1), .val (.int p2), .val (.int (1 : Int32)), .val (.ref c_INPUT), .val (.ref b110), .val (.ref b120), .val (.int (1 : Int32)), .val (.int (1 : Int32))] []))
      refine own_st (fun _ k => XS.iload X127.here hx rfl (hb hby at_115) rfl k) ?_
      show own_go _ _ _ _ _ _ _ (T127.setTop (mkF m 117 #[.val (.int p0), .val (.int p1), .val (.int p2), .val (.int (1 : Int32)), .val (.ref c_INPUT), .val (.ref b110), .val (.ref b120), .val (.int (1 : Int32)), .val (.int (1 : Int32))] [(.int (1 : Int32))]))
      refine own_st (fun _ k => XS.iloadN X127.here hx rfl (hb hby at_117) rfl k) ?_
      show own_go _ _ _ _ _ _ _ (T127.setTop (mkF m 118 #[.val (.int p0), .val (.int p1), .val (.int p2), .val (.int (1 : Int32)), .val (.ref c_INPUT), .val (.ref b110), .val (.ref b120), .val (.int (1 : Int32)), .val (.int (1 : Int32))] [(.int (1 : Int32)), (.int (1 : Int32))]))
      refine own_st (fun _ k => XS.icmpNo X127.here hx rfl (hb hby at_118) rfl (by decide) k) ?_
      show own_go _ _ _ _ _ _ _ (T127.setTop (mkF m 121 #[.val (.int p0), .val (.int p1), .val (.int p2), .val (.int (1 : Int32)), .val (.ref c_INPUT), .val (.ref b110), .val (.ref b120), .val (.int (1 : Int32)), .val (.int (1 : Int32))] []))
      refine own_st (fun _ k => XS.iload X127.here hx rfl (hb hby at_121) rfl k) ?_
      show own_go _ _ _ _ _ _ _ (T127.setTop (mkF m 123 #[.val (.int p0), .val (.int p1), .val (.int p2), .val (.int (1 : Int32)), .val (.ref c_INPUT), .val (.ref b110), .val (.ref b120), .val (.int (1 : Int32)), .val (.int (1 : Int32))] [(.int (1 : Int32))]))
      refine own_st (fun _ k => XS.iload X127.here hx rfl (hb hby at_123) rfl k) ?_
      show own_go _ _ _ _ _ _ _ (T127.setTop (mkF m 125 #[.val (.int p0), .val (.int p1), .val (.int p2), .val (.int (1 : Int32)), .val (.ref c_INPUT), .val (.ref b110), .val (.ref b120), .val (.int (1 : Int32)), .val (.int (1 : Int32))] [(.int (1 : Int32)), (.int (1 : Int32))]))
      refine own_st (fun _ k => XS.icmpNo X127.here hx rfl (hb hby at_125) rfl (by decide) k) ?_
      show own_go _ _ _ _ _ _ _ (T127.setTop (mkF m 128 #[.val (.int p0), .val (.int p1), .val (.int p2), .val (.int (1 : Int32)), .val (.ref c_INPUT), .val (.ref b110), .val (.ref b120), .val (.int (1 : Int32)), .val (.int (1 : Int32))] []))
      refine own_st (fun _ k => XS.iconst X127.here hx rfl (hb hby at_128) k) ?_
      show own_go _ _ _ _ _ _ _ (T127.setTop (mkF m 129 #[.val (.int p0), .val (.int p1), .val (.int p2), .val (.int (1 : Int32)), .val (.ref c_INPUT), .val (.ref b110), .val (.ref b120), .val (.int (1 : Int32)), .val (.int (1 : Int32))] [(.int (1 : Int32))]))
      refine own_st (fun _ k => XS.goto X127.here hx rfl (pc0 := 129) (pc' := 133) rfl (hb hby at_129) (by decide) (by decide) k) ?_
      show own_go _ _ _ _ _ _ _ (T127.setTop (mkF m 133 #[.val (.int p0), .val (.int p1), .val (.int p2), .val (.int (1 : Int32)), .val (.ref c_INPUT), .val (.ref b110), .val (.ref b120), .val (.int (1 : Int32)), .val (.int (1 : Int32))] [(.int (1 : Int32))]))
      exact own_retN X127 hx hlk (t := .boolean) hret (by simp) rfl (hb hby at_133) (by decide) (by decide) (⟨rfl, N126⟩)
set_option maxRecDepth 65536 in
set_option maxHeartbeats 40000000 in
theorem comes_1 {Post : Tables → Env → Array Value → State → Outcome → State → Prop} (hpost : ∀ tb e args s v u, (limb_1_1.after args s (.returned v) u = true ∧ limb_1_2.after args s (.returned v) u = true ∧ True) → FrameEnd s (.returned v) u (Jvm.fieldLocs frame_1_writes args s ++ Jvm.arrayLocs frame_1_arrays args s ++ Jvm.staticLocs frame_1_statics s) 16 128 → Post tb e args s (.returned v) u) :
    ArmFor flags0 classFile x code maxLocals ret World_1 tables_1 room_1 Calls_1 rest_1 Pre_1 Post := by
  intro l hfl _ _ p e ha hc hk s m args below hf hA hF happ hP
  obtain ⟨hcalls, hrest, hpre⟩ := hP
  obtain ⟨-, -, -, hnamed, -, -, -, hat⟩ := (Spec.applies_iff hf).mp happ
  obtain ⟨hg, hn⟩ := and_e (Cond.before_iff.mp (show (Jvm.Cond.and given_1 narrow_1).before args s = true from hpre))
  obtain ⟨h1, hg0⟩ := and_e hg
  obtain ⟨w0, w1, w2, rfl⟩ : ∃ w0 w1 w2 : Value, args = #[w0, w1, w2] := by
    have hs : args.size = 3 := by simpa [Cond.value, given_1] using h1
    obtain ⟨L⟩ := args
    match L, hs with
    | [w0, w1, w2], _ => exact ⟨w0, w1, w2, rfl⟩
  have hw := fun d (hd : d ∈ tables_1) => atoms_spec (ws := Jvm.Cond.code x code maxLocals ret :: tables_1) hat d (List.mem_cons_of_mem _ hd)
  obtain ⟨ha0, hg1⟩ := and_e hg0
  obtain ⟨i0, e0⟩ := is_v ha0
  obtain rfl : w0 = (.int i0) := Option.some.inj e0
  obtain ⟨ha1, hg2⟩ := and_e hg1
  obtain ⟨i1, e1⟩ := is_v ha1
  obtain rfl : w1 = (.int i1) := Option.some.inj e1
  obtain ⟨i2, e2⟩ := is_v hg2
  obtain rfl : w2 = (.int i2) := Option.some.inj e2
  obtain ⟨hsets, hown0⟩ := atoms_of _ (rest_1_c_eq ▸ (show rest_1_c.before _ s = true from hrest))
  have hfit : Fit s := fun {y c} hc i hi => by
    obtain ⟨ha, rfl⟩ := Array.getElem?_eq_some_iff.mp hc
    have q := List.all_eq_true.mp ((Array.all_eq_true_iff_forall_mem.mp hF) _ (Array.getElem_mem ha)) i (List.mem_range.mpr hi)
    simpa [Array.getElem?_eq_getElem hi] using q
  obtain ⟨n1, r1⟩ := and_e hn
  obtain ⟨n2, r2⟩ := and_e r1
  obtain ⟨n3, r3⟩ := and_e r2
  have n4 := r3
  obtain ⟨c_OUTPUT, v_c_OUTPUT⟩ := exa_v n1
  have E_c_OUTPUT := Exa.start v_c_OUTPUT n1
  have S_c_OUTPUT := Sta.start v_c_OUTPUT (Or.inr ⟨(hw _ (List.mem_of_getElem? (i := 1) rfl)), (hw _ (List.mem_of_getElem? (i := 2) rfl))⟩)
  obtain ⟨c_INPUT, v_c_INPUT⟩ := exa_v n2
  have E_c_INPUT := Exa.start v_c_INPUT n2
  have S_c_INPUT := Sta.start v_c_INPUT (Or.inr ⟨(hw _ (List.mem_of_getElem? (i := 1) rfl)), (hw _ (List.mem_of_getElem? (i := 52) rfl))⟩)
  have F_c_OUTPUT_ordinal := own_fldI v_c_OUTPUT n3
  have F_c_INPUT_ordinal := own_fldI v_c_INPUT n4
  have m1 := Cond.before_iff.mp (hsets _ (List.mem_of_getElem? (i := 1) rfl))
  obtain ⟨z_COMPACT_STRINGS, v_z_COMPACT_STRINGS⟩ := is_v m1
  have S_z_COMPACT_STRINGS := Sta.start v_z_COMPACT_STRINGS (Or.inl (hsets _ (List.mem_of_getElem? (i := 0) rfl)))
  have m2 := Cond.before_iff.mp (hsets _ (List.mem_of_getElem? (i := 2) rfl))
  have nz_z_COMPACT_STRINGS := own_nz v_z_COMPACT_STRINGS m2
  have m8 := Cond.before_iff.mp (hsets _ (List.mem_of_getElem? (i := 8) rfl))
  have hS : own_S s c_OUTPUT c_INPUT z_COMPACT_STRINGS := ⟨S_c_OUTPUT, E_c_OUTPUT, S_c_INPUT, E_c_INPUT, F_c_OUTPUT_ordinal, F_c_INPUT_ordinal, S_z_COMPACT_STRINGS, nz_z_COMPACT_STRINGS⟩

  obtain ⟨n, o, h1, h2, h3, _, L, rfl, ⟨rfl, N⟩, hq⟩ := rm0 l s _ hw tables_1 i0 i1 i2 c_OUTPUT c_INPUT z_COMPACT_STRINGS s.heap s.heap.size (Old.start s) hS p e ha hc hk s m _ below hf ((Spec.applies_iff_loose hf).mp happ).1 ⟨rfl, State.Warmed39.refl s, rfl⟩ trivial
  refine ⟨n, _, h1, h2, h3, hpost _ _ _ _ _ _ ⟨Cond.after_iff.mpr rfl, Cond.after_iff.mpr (eq_i res_at (Term.int_eval (1)) rfl), trivial⟩ ⟨hq.1, hq.2.1, (hq.2.2.sift fun y hy => Or.inr (N y hy)).mono (by decide) (by decide)⟩⟩
theorem main_1_1 : Claimed_1_1 := comes_1 fun _ _ _ _ _ _ h hF => ⟨h.1, hF⟩
theorem main_1_2 : Claimed_1_2 := comes_1 fun _ _ _ _ _ _ h hF => ⟨h.2.1, hF⟩
end Jvm.Pilot.@@N@@
namespace Jvm.Pilot.@@N@@
open Jvm Jvm.ClassFile Sem Op Lib Jvm.Free Jvm.Stand Jvm.Pilot.@@N@@.Jvm.D
/-! MADE BY PROGRAM (witnessworld.py) out of the Statement's table words and the real class files: 23 classes; the members and pool entries that the words name. The judged class is class 1, her method 1. -/
namespace start1
open Jvm.ClassFile
def u (s : String) : CpInfo := .utf8 (stringToUtf16 s)
/-- a pool by its gaps: so many unusable entries, then the entry; so many at the end -/
def gap : Nat → List CpInfo → List CpInfo
  | 0, r => r
  | n + 1, r => .unusable :: gap n r
def poolList (es : List (Nat × CpInfo)) (last : Nat) : List CpInfo := es.foldr (fun e r => gap e.1 (e.2 :: r)) (gap last [])
def pool (es : List (Nat × CpInfo)) (last : Nat) : Array CpInfo := ⟨poolList es last⟩
def fileOf (pool : Array CpInfo) (this : Nat) (attrs : Array Attribute := #[]) (ms : Array MethodInfo := #[]) (fl : Nat := 33) (sup : Nat := 0) (ifs : Array Nat := #[]) (fds : Array FieldInfo := #[]) : ClassFile where
  minorVersion := 0
  majorVersion := 65
  constantPool := pool
  accessFlags := fl
  thisClass := this
  superClass := sup
  interfaces := ifs
  fields := fds
  methods := ms
  attributes := attrs
def plain (name : String) (sup : Option ClassId) : Class where
  name := name
  kind := .ordinary
  loader := none
  accessFlags := 33
  super := sup
  interfaces := #[]
  cf := none
  fields := #[]
  methods := #[]
  instanceTypes := #[]
  staticTypes := #[]
  resolved := #[]
  callSites := []
  init := .initialized
  statics := none
  mirror := none

def pool0 : Array CpInfo := pool [(5, u "<init>"), (0, u "()V"), (1, .class_ 10), (1, u "java/lang/Object")] 113

def k0c0 : Code := { maxStack := 0, maxLocals := 1, code := object_method_1_code, exceptionTable := #[], attributes := #[] }
def k0m0 : Method := { name := "<init>", desc := "()V", sig := { parameters := [], returnType := none }, accessFlags := 1, code := some k0c0 }
/-- java/lang/Object -/
def k0 : Class := { plain "java/lang/Object" none with
  accessFlags := 33
  interfaces := #[]
  cf := some (fileOf pool0 8 #[] #[{ accessFlags := 1, nameIndex := 5, descriptorIndex := 6, attributes := #[] }] 33 0 #[] #[])
  fields := #[]
  methods := #[k0m0]
  instanceTypes := #[]
  staticTypes := #[]
  resolved := Array.replicate 124 none
  statics := none }

def pool1 : Array CpInfo := pool [(2, .class_ 4), (1, u "java/lang/Object"), (0, u "<init>"), (0, u "()V"), (0, .fieldref 8 9), (0, .class_ 10), (0, .nameAndType 11 12), (0, u "com/example/bridgr/bridgr/spec/Section"), (0, u "INPUT"), (0, u "Lcom/example/bridgr/bridgr/spec/Section;"), (0, .fieldref 8 14), (0, .nameAndType 15 12), (0, u "OUTPUT"), (0, .class_ 17), (0, u "java/lang/String"), (0, .methodref 16 19), (0, .nameAndType 5 20), (0, u "([C)V"), (0, .methodref 16 22), (0, .nameAndType 23 24), (0, u "valueOf"), (0, u "(C)Ljava/lang/String;"), (0, .class_ 26), (0, u "com/example/bridgr/bridgr/spec/Variable"), (0, .methodref 25 28), (0, .nameAndType 5 29), (0, u "(Ljava/lang/String;Lcom/example/bridgr/bridgr/spec/Section;)V"), (0, .methodref 25 31), (0, .nameAndType 32 33), (0, u "isInput"), (0, u "()Z"), (0, .methodref 25 35), (0, .nameAndType 36 37), (0, u "declaration"), (0, u "()Lcom/example/bridgr/bridgr/spec/Section;"), (0, .class_ 39), (0, u "com/example/bridgr/bridgr/spec/VariableIsInputPinLaw"), (2, u "law"), (0, u "(III)Z")] 3

def k1m0 : Method := { name := "<init>", desc := "()V", sig := { parameters := [], returnType := none }, accessFlags := 1, code := none }
def k1c1 : Code := { maxStack := 7, maxLocals := 9, code := code, exceptionTable := #[], attributes := #[] }
def k1m1 : Method := { name := "law", desc := "(III)Z", sig := { parameters := [.int, .int, .int], returnType := some .boolean }, accessFlags := 9, code := some k1c1 }
/-- com/example/bridgr/bridgr/spec/VariableIsInputPinLaw -/
def k1 : Class := { plain "com/example/bridgr/bridgr/spec/VariableIsInputPinLaw" (some 0) with
  accessFlags := 49
  interfaces := #[]
  cf := some (fileOf pool1 38 #[] #[{ accessFlags := 1, nameIndex := 5, descriptorIndex := 6, attributes := #[] }, { accessFlags := 9, nameIndex := 42, descriptorIndex := 43, attributes := #[] }] 49 2 #[] #[])
  fields := #[]
  methods := #[k1m0, k1m1]
  instanceTypes := #[]
  staticTypes := #[]
  resolved := Array.replicate 47 none
  statics := none }

def pool2 : Array CpInfo := pool [(1, .class_ 2), (0, u "java/lang/constant/Constable"), (0, .class_ 4), (0, u "java/lang/Object")] 6

/-- java/lang/constant/Constable -/
def k2 : Class := { plain "java/lang/constant/Constable" (some 0) with
  accessFlags := 1537
  interfaces := #[]
  cf := some (fileOf pool2 1 #[] #[] 1537 3 #[] #[])
  fields := #[]
  methods := #[]
  instanceTypes := #[]
  staticTypes := #[]
  resolved := Array.replicate 11 none
  statics := none }

def pool3 : Array CpInfo := pool [(1, .class_ 2), (0, u "java/lang/Comparable"), (0, .class_ 4), (0, u "java/lang/Object")] 7

/-- java/lang/Comparable -/
def k3 : Class := { plain "java/lang/Comparable" (some 0) with
  accessFlags := 1537
  interfaces := #[]
  cf := some (fileOf pool3 1 #[] #[] 1537 3 #[] #[])
  fields := #[]
  methods := #[]
  instanceTypes := #[]
  staticTypes := #[]
  resolved := Array.replicate 12 none
  statics := none }

def pool4 : Array CpInfo := pool [(1, .class_ 2), (0, u "java/io/Serializable"), (0, .class_ 4), (0, u "java/lang/Object")] 2

/-- java/io/Serializable -/
def k4 : Class := { plain "java/io/Serializable" (some 0) with
  accessFlags := 1537
  interfaces := #[]
  cf := some (fileOf pool4 1 #[] #[] 1537 3 #[] #[])
  fields := #[]
  methods := #[]
  instanceTypes := #[]
  staticTypes := #[]
  resolved := Array.replicate 7 none
  statics := none }

def pool5 : Array CpInfo := pool [(2, .class_ 4), (1, u "java/lang/Enum"), (0, u "name"), (0, u "Ljava/lang/String;"), (2, u "ordinal"), (0, u "I"), (1, .class_ 14), (1, u "java/lang/Object"), (4, u "hash"), (86, .class_ 108), (1, u "java/lang/Enum$EnumDesc"), (2, .class_ 112), (0, u "java/lang/constant/Constable"), (0, .class_ 114), (0, u "java/lang/Comparable"), (0, .class_ 116), (0, u "java/io/Serializable")] 87

/-- java/lang/Enum -/
def k5 : Class := { plain "java/lang/Enum" (some 0) with
  accessFlags := 1057
  interfaces := #[2, 3, 4]
  cf := some (fileOf pool5 2 #[.nestMembers #[106]] #[] 1057 12 #[111, 113, 115] #[{ accessFlags := 18, nameIndex := 5, descriptorIndex := 6, attributes := #[] }, { accessFlags := 18, nameIndex := 9, descriptorIndex := 10, attributes := #[] }, { accessFlags := 2, nameIndex := 19, descriptorIndex := 10, attributes := #[] }])
  fields := #[{ name := "name", type := (.object "java/lang/String"), accessFlags := 18, slot := 0, constantValue := 0 }, { name := "ordinal", type := .int, accessFlags := 18, slot := 1, constantValue := 0 }, { name := "hash", type := .int, accessFlags := 2, slot := 2, constantValue := 0 }]
  methods := #[]
  instanceTypes := #[(.object "java/lang/String"), .int, .int]
  staticTypes := #[]
  resolved := Array.replicate 204 none
  statics := none }

def pool6 : Array CpInfo := pool [(1, .class_ 2), (0, u "com/example/bridgr/bridgr/spec/Section"), (0, .fieldref 1 4), (0, .nameAndType 5 6), (0, u "INPUT"), (0, u "Lcom/example/bridgr/bridgr/spec/Section;"), (0, .fieldref 1 8), (0, .nameAndType 9 6), (0, u "OUTPUT"), (2, u "ENV_INIT"), (2, u "SYS_INIT"), (2, u "ENV_TRANS"), (2, u "SYS_TRANS"), (2, u "ENV_LIVENESS"), (2, u "SYS_LIVENESS"), (2, u "$VALUES"), (0, u "[Lcom/example/bridgr/bridgr/spec/Section;"), (6, .class_ 40), (1, u "java/lang/Enum"), (57, u "declaresVariables"), (0, u "()Z")] 63

def k6c0 : Code := { maxStack := 2, maxLocals := 1, code := prog_19_method_6_code, exceptionTable := #[], attributes := #[] }
def k6m0 : Method := { name := "declaresVariables", desc := "()Z", sig := { parameters := [], returnType := some .boolean }, accessFlags := 1, code := some k6c0 }
/-- com/example/bridgr/bridgr/spec/Section -/
def k6 : Class := { plain "com/example/bridgr/bridgr/spec/Section" (some 5) with
  accessFlags := 16433
  interfaces := #[]
  cf := some (fileOf pool6 1 #[] #[{ accessFlags := 1, nameIndex := 98, descriptorIndex := 99, attributes := #[] }] 16433 38 #[] #[{ accessFlags := 16409, nameIndex := 5, descriptorIndex := 6, attributes := #[] }, { accessFlags := 16409, nameIndex := 9, descriptorIndex := 6, attributes := #[] }, { accessFlags := 16409, nameIndex := 12, descriptorIndex := 6, attributes := #[] }, { accessFlags := 16409, nameIndex := 15, descriptorIndex := 6, attributes := #[] }, { accessFlags := 16409, nameIndex := 18, descriptorIndex := 6, attributes := #[] }, { accessFlags := 16409, nameIndex := 21, descriptorIndex := 6, attributes := #[] }, { accessFlags := 16409, nameIndex := 24, descriptorIndex := 6, attributes := #[] }, { accessFlags := 16409, nameIndex := 27, descriptorIndex := 6, attributes := #[] }, { accessFlags := 4122, nameIndex := 30, descriptorIndex := 31, attributes := #[] }])
  fields := #[{ name := "INPUT", type := (.object "com/example/bridgr/bridgr/spec/Section"), accessFlags := 16409, slot := 0, constantValue := 0 }, { name := "OUTPUT", type := (.object "com/example/bridgr/bridgr/spec/Section"), accessFlags := 16409, slot := 1, constantValue := 0 }, { name := "ENV_INIT", type := (.object "com/example/bridgr/bridgr/spec/Section"), accessFlags := 16409, slot := 2, constantValue := 0 }, { name := "SYS_INIT", type := (.object "com/example/bridgr/bridgr/spec/Section"), accessFlags := 16409, slot := 3, constantValue := 0 }, { name := "ENV_TRANS", type := (.object "com/example/bridgr/bridgr/spec/Section"), accessFlags := 16409, slot := 4, constantValue := 0 }, { name := "SYS_TRANS", type := (.object "com/example/bridgr/bridgr/spec/Section"), accessFlags := 16409, slot := 5, constantValue := 0 }, { name := "ENV_LIVENESS", type := (.object "com/example/bridgr/bridgr/spec/Section"), accessFlags := 16409, slot := 6, constantValue := 0 }, { name := "SYS_LIVENESS", type := (.object "com/example/bridgr/bridgr/spec/Section"), accessFlags := 16409, slot := 7, constantValue := 0 }, { name := "$VALUES", type := (.array (.object "com/example/bridgr/bridgr/spec/Section")), accessFlags := 4122, slot := 8, constantValue := 0 }]
  methods := #[k6m0]
  instanceTypes := #[(.object "java/lang/String"), .int, .int]
  staticTypes := #[(.object "com/example/bridgr/bridgr/spec/Section"), (.object "com/example/bridgr/bridgr/spec/Section"), (.object "com/example/bridgr/bridgr/spec/Section"), (.object "com/example/bridgr/bridgr/spec/Section"), (.object "com/example/bridgr/bridgr/spec/Section"), (.object "com/example/bridgr/bridgr/spec/Section"), (.object "com/example/bridgr/bridgr/spec/Section"), (.object "com/example/bridgr/bridgr/spec/Section"), (.array (.object "com/example/bridgr/bridgr/spec/Section"))]
  resolved := Array.replicate 163 none
  statics := some 0 }

def pool7 : Array CpInfo := pool [(2, .class_ 4), (1, u "java/lang/CharSequence"), (42, .class_ 48), (0, u "java/lang/CharSequence$1CodePointIterator"), (10, .class_ 60), (0, u "java/lang/CharSequence$1CharIterator"), (5, .class_ 67), (0, u "java/lang/Object")] 63

/-- java/lang/CharSequence -/
def k7 : Class := { plain "java/lang/CharSequence" (some 0) with
  accessFlags := 1537
  interfaces := #[]
  cf := some (fileOf pool7 2 #[.nestMembers #[47, 59]] #[] 1537 66 #[] #[])
  fields := #[]
  methods := #[]
  instanceTypes := #[]
  staticTypes := #[]
  resolved := Array.replicate 131 none
  statics := none }

def pool8 : Array CpInfo := pool [(1, .class_ 2), (0, u "java/lang/constant/ConstantDesc"), (0, .class_ 4), (0, u "java/lang/Object")] 32

/-- java/lang/constant/ConstantDesc -/
def k8 : Class := { plain "java/lang/constant/ConstantDesc" (some 0) with
  accessFlags := 1537
  interfaces := #[]
  cf := some (fileOf pool8 1 #[] #[] 1537 3 #[] #[])
  fields := #[]
  methods := #[]
  instanceTypes := #[]
  staticTypes := #[]
  resolved := Array.replicate 37 none
  statics := none }

def pool9 : Array CpInfo := pool [(1, .methodref 2 3), (0, .class_ 4), (0, .nameAndType 5 6), (0, u "java/lang/Object"), (0, u "<init>"), (0, u "()V"), (2, .fieldref 10 11), (0, .class_ 12), (0, .nameAndType 13 14), (0, u "java/lang/String"), (0, u "value"), (0, u "[B"), (0, .fieldref 10 16), (0, .nameAndType 17 18), (0, u "coder"), (0, u "B"), (2, u "hash"), (0, u "I"), (2, u "hashIsZero"), (0, u "Z"), (0, .methodref 10 28), (0, .nameAndType 5 29), (0, u "([CIILjava/lang/Void;)V"), (8, .fieldref 10 39), (0, .nameAndType 40 26), (0, u "COMPACT_STRINGS"), (1, .class_ 44), (1, u "java/lang/StringUTF16"), (0, u "compress"), (1, .methodref 42 48), (0, .nameAndType 49 50), (0, u "coderFromArrayLen"), (0, u "([BI)B"), (2, u "toBytes"), (53, .class_ 109), (1, u "java/lang/StringLatin1"), (67, .methodref 42 178), (0, .nameAndType 45 179), (0, u "([CII)[B"), (29, .methodref 10 210), (0, .nameAndType 5 211), (0, u "([BB)V"), (157, u "(C)Z"), (205, .class_ 576), (0, u "java/lang/CharSequence"), (22, u "CASE_INSENSITIVE_ORDER"), (0, u "Ljava/util/Comparator;"), (181, u "valueOf"), (0, u "(C)Ljava/lang/String;"), (226, u "([C)V"), (4, .methodref 107 1016), (0, .nameAndType 1017 369), (0, u "canEncode"), (0, .methodref 107 1019), (0, .nameAndType 53 1020), (0, u "(C)[B"), (80, u "serialPersistentFields"), (0, u "[Ljava/io/ObjectStreamField;"), (0, .class_ 1104), (0, u "java/lang/String$CaseInsensitiveComparator"), (1, .class_ 1107), (0, u "java/io/Serializable"), (0, .class_ 1109), (0, u "java/lang/Comparable"), (0, .class_ 1111), (0, u "java/lang/constant/Constable"), (0, .class_ 1113), (0, u "java/lang/constant/ConstantDesc"), (2, u "serialVersionUID"), (0, u "J"), (3, u "REPL"), (0, u "C"), (2, u "LATIN1"), (1, u "UTF16")] 323

def k9m0 : Method := { name := "<init>", desc := "()V", sig := { parameters := [], returnType := none }, accessFlags := 1, code := none }
def k9c1 : Code := { maxStack := 5, maxLocals := 2, code := jdk_42_method_3_code, exceptionTable := #[], attributes := #[] }
def k9m1 : Method := { name := "<init>", desc := "([C)V", sig := { parameters := [(.array .char)], returnType := none }, accessFlags := 1, code := some k9c1 }
def k9c2 : Code := { maxStack := 4, maxLocals := 1, code := jdk_42_method_139_code, exceptionTable := #[], attributes := #[] }
def k9m2 : Method := { name := "valueOf", desc := "(C)Ljava/lang/String;", sig := { parameters := [.char], returnType := some (.object "java/lang/String") }, accessFlags := 9, code := some k9c2 }
def k9c3 : Code := { maxStack := 4, maxLocals := 6, code := jdk_42_method_149_code, exceptionTable := #[], attributes := #[] }
def k9m3 : Method := { name := "<init>", desc := "([CIILjava/lang/Void;)V", sig := { parameters := [(.array .char), .int, .int, (.object "java/lang/Void")], returnType := none }, accessFlags := 2, code := some k9c3 }
def k9c4 : Code := { maxStack := 2, maxLocals := 3, code := jdk_42_method_151_code, exceptionTable := #[], attributes := #[] }
def k9m4 : Method := { name := "<init>", desc := "([BB)V", sig := { parameters := [(.array .byte), .byte], returnType := none }, accessFlags := 0, code := some k9c4 }
/-- java/lang/String -/
def k9 : Class := { plain "java/lang/String" (some 0) with
  accessFlags := 49
  interfaces := #[4, 3, 7, 2, 8]
  cf := some (fileOf pool9 10 #[.nestMembers #[1103]] #[{ accessFlags := 1, nameIndex := 5, descriptorIndex := 6, attributes := #[] }, { accessFlags := 1, nameIndex := 5, descriptorIndex := 1010, attributes := #[] }, { accessFlags := 9, nameIndex := 782, descriptorIndex := 783, attributes := #[] }, { accessFlags := 2, nameIndex := 5, descriptorIndex := 29, attributes := #[] }, { accessFlags := 0, nameIndex := 5, descriptorIndex := 211, attributes := #[] }] 49 2 #[1106, 1108, 575, 1110, 1112] #[{ accessFlags := 18, nameIndex := 13, descriptorIndex := 14, attributes := #[] }, { accessFlags := 18, nameIndex := 17, descriptorIndex := 18, attributes := #[] }, { accessFlags := 2, nameIndex := 21, descriptorIndex := 22, attributes := #[] }, { accessFlags := 2, nameIndex := 25, descriptorIndex := 26, attributes := #[] }, { accessFlags := 26, nameIndex := 1116, descriptorIndex := 1117, attributes := #[] }, { accessFlags := 24, nameIndex := 40, descriptorIndex := 26, attributes := #[] }, { accessFlags := 26, nameIndex := 1101, descriptorIndex := 1102, attributes := #[] }, { accessFlags := 26, nameIndex := 1121, descriptorIndex := 1122, attributes := #[] }, { accessFlags := 25, nameIndex := 599, descriptorIndex := 600, attributes := #[] }, { accessFlags := 24, nameIndex := 1125, descriptorIndex := 18, attributes := #[] }, { accessFlags := 24, nameIndex := 1127, descriptorIndex := 18, attributes := #[] }])
  fields := #[{ name := "value", type := (.array .byte), accessFlags := 18, slot := 0, constantValue := 0 }, { name := "coder", type := .byte, accessFlags := 18, slot := 1, constantValue := 0 }, { name := "hash", type := .int, accessFlags := 2, slot := 2, constantValue := 0 }, { name := "hashIsZero", type := .boolean, accessFlags := 2, slot := 3, constantValue := 0 }, { name := "serialVersionUID", type := .long, accessFlags := 26, slot := 0, constantValue := 0 }, { name := "COMPACT_STRINGS", type := .boolean, accessFlags := 24, slot := 1, constantValue := 0 }, { name := "serialPersistentFields", type := (.array (.object "java/io/ObjectStreamField")), accessFlags := 26, slot := 2, constantValue := 0 }, { name := "REPL", type := .char, accessFlags := 26, slot := 3, constantValue := 0 }, { name := "CASE_INSENSITIVE_ORDER", type := (.object "java/util/Comparator"), accessFlags := 25, slot := 4, constantValue := 0 }, { name := "LATIN1", type := .byte, accessFlags := 24, slot := 5, constantValue := 0 }, { name := "UTF16", type := .byte, accessFlags := 24, slot := 6, constantValue := 0 }]
  methods := #[k9m0, k9m1, k9m2, k9m3, k9m4]
  instanceTypes := #[(.array .byte), .byte, .int, .boolean]
  staticTypes := #[.long, .boolean, (.array (.object "java/io/ObjectStreamField")), .char, (.object "java/util/Comparator"), .byte, .byte]
  resolved := Array.replicate 1451 none
  statics := some 1 }

def pool10 : Array CpInfo := pool [(4, .class_ 6), (1, u "java/lang/Object"), (0, u "<init>"), (0, u "()V"), (5, .class_ 16), (1, u "java/lang/StringLatin1"), (73, u "canEncode"), (14, u "(C)Z"), (15, u "$assertionsDisabled"), (0, u "Z"), (98, .class_ 223), (1, u "java/lang/StringLatin1$LinesSpliterator"), (156, u "toBytes"), (1, u "(C)[B"), (7, .class_ 391), (0, u "java/lang/StringLatin1$CharsSpliterator")] 3

def k10m0 : Method := { name := "<init>", desc := "()V", sig := { parameters := [], returnType := none }, accessFlags := 0, code := none }
def k10c1 : Code := { maxStack := 2, maxLocals := 1, code := jdk_43_method_3_code, exceptionTable := #[], attributes := #[] }
def k10m1 : Method := { name := "canEncode", desc := "(C)Z", sig := { parameters := [.char], returnType := some .boolean }, accessFlags := 9, code := some k10c1 }
def k10c2 : Code := { maxStack := 4, maxLocals := 1, code := jdk_43_method_46_code, exceptionTable := #[], attributes := #[] }
def k10m2 : Method := { name := "toBytes", desc := "(C)[B", sig := { parameters := [.char], returnType := some (.array .byte) }, accessFlags := 9, code := some k10c2 }
/-- java/lang/StringLatin1 -/
def k10 : Class := { plain "java/lang/StringLatin1" (some 0) with
  accessFlags := 48
  interfaces := #[]
  cf := some (fileOf pool10 14 #[.nestMembers #[390, 221]] #[{ accessFlags := 0, nameIndex := 7, descriptorIndex := 8, attributes := #[] }, { accessFlags := 9, nameIndex := 90, descriptorIndex := 105, attributes := #[] }, { accessFlags := 9, nameIndex := 380, descriptorIndex := 382, attributes := #[] }] 48 4 #[] #[{ accessFlags := 4120, nameIndex := 121, descriptorIndex := 122, attributes := #[] }])
  fields := #[{ name := "$assertionsDisabled", type := .boolean, accessFlags := 4120, slot := 0, constantValue := 0 }]
  methods := #[k10m0, k10m1, k10m2]
  instanceTypes := #[]
  staticTypes := #[.boolean]
  resolved := Array.replicate 395 none
  statics := none }

def pool11 : Array CpInfo := pool [(1, .methodref 2 3), (0, .class_ 4), (0, .nameAndType 5 6), (0, u "java/lang/Object"), (0, u "<init>"), (0, u "()V"), (0, .methodref 8 9), (0, .class_ 10), (0, .nameAndType 11 12), (0, u "java/util/Objects"), (0, u "requireNonNull"), (0, u "(Ljava/lang/Object;)Ljava/lang/Object;"), (0, .class_ 14), (0, u "java/lang/String"), (0, .fieldref 16 17), (0, .class_ 18), (0, .nameAndType 19 20), (0, u "com/example/bridgr/bridgr/spec/Variable"), (0, u "name"), (0, u "Ljava/lang/String;"), (0, .methodref 16 22), (0, .nameAndType 23 24), (0, u "checkDeclaration"), (0, u "(Lcom/example/bridgr/bridgr/spec/Section;)Lcom/example/bridgr/bridgr/spec/Section;"), (0, .fieldref 16 26), (0, .nameAndType 27 28), (0, u "declaration"), (0, u "Lcom/example/bridgr/bridgr/spec/Section;"), (0, .fieldref 16 30), (0, .nameAndType 31 32), (0, u "lowest"), (0, u "Ljava/math/BigInteger;"), (0, .fieldref 16 34), (0, .nameAndType 35 32), (0, u "highest"), (19, .methodref 56 57), (0, .class_ 58), (0, .nameAndType 59 60), (0, u "com/example/bridgr/bridgr/spec/Section"), (0, u "declaresVariables"), (0, u "()Z"), (3, .fieldref 56 65), (0, .nameAndType 66 28), (0, u "INPUT"), (15, u "BOOLEAN_VALUES"), (14, u "(Ljava/lang/String;Lcom/example/bridgr/bridgr/spec/Section;)V"), (5, u "()Lcom/example/bridgr/bridgr/spec/Section;"), (0, u "isInput")] 25

def k11c0 : Code := { maxStack := 2, maxLocals := 3, code := prog_30_method_1_code, exceptionTable := #[], attributes := #[] }
def k11m0 : Method := { name := "<init>", desc := "(Ljava/lang/String;Lcom/example/bridgr/bridgr/spec/Section;)V", sig := { parameters := [(.object "java/lang/String"), (.object "com/example/bridgr/bridgr/spec/Section")], returnType := none }, accessFlags := 1, code := some k11c0 }
def k11c1 : Code := { maxStack := 3, maxLocals := 1, code := prog_30_method_3_code, exceptionTable := #[], attributes := #[] }
def k11m1 : Method := { name := "checkDeclaration", desc := "(Lcom/example/bridgr/bridgr/spec/Section;)Lcom/example/bridgr/bridgr/spec/Section;", sig := { parameters := [(.object "com/example/bridgr/bridgr/spec/Section")], returnType := some (.object "com/example/bridgr/bridgr/spec/Section") }, accessFlags := 10, code := some k11c1 }
def k11c2 : Code := { maxStack := 1, maxLocals := 1, code := prog_30_method_5_code, exceptionTable := #[], attributes := #[] }
def k11m2 : Method := { name := "declaration", desc := "()Lcom/example/bridgr/bridgr/spec/Section;", sig := { parameters := [], returnType := some (.object "com/example/bridgr/bridgr/spec/Section") }, accessFlags := 1, code := some k11c2 }
def k11c3 : Code := { maxStack := 2, maxLocals := 1, code := prog_30_method_6_code, exceptionTable := #[], attributes := #[] }
def k11m3 : Method := { name := "isInput", desc := "()Z", sig := { parameters := [], returnType := some .boolean }, accessFlags := 1, code := some k11c3 }
/-- com/example/bridgr/bridgr/spec/Variable -/
def k11 : Class := { plain "com/example/bridgr/bridgr/spec/Variable" (some 0) with
  accessFlags := 33
  interfaces := #[]
  cf := some (fileOf pool11 16 #[] #[{ accessFlags := 1, nameIndex := 5, descriptorIndex := 97, attributes := #[] }, { accessFlags := 10, nameIndex := 23, descriptorIndex := 24, attributes := #[] }, { accessFlags := 1, nameIndex := 27, descriptorIndex := 103, attributes := #[] }, { accessFlags := 1, nameIndex := 104, descriptorIndex := 60, attributes := #[] }] 33 2 #[] #[{ accessFlags := 26, nameIndex := 82, descriptorIndex := 32, attributes := #[] }, { accessFlags := 18, nameIndex := 19, descriptorIndex := 20, attributes := #[] }, { accessFlags := 18, nameIndex := 27, descriptorIndex := 28, attributes := #[] }, { accessFlags := 18, nameIndex := 31, descriptorIndex := 32, attributes := #[] }, { accessFlags := 18, nameIndex := 35, descriptorIndex := 32, attributes := #[] }])
  fields := #[{ name := "BOOLEAN_VALUES", type := (.object "java/math/BigInteger"), accessFlags := 26, slot := 0, constantValue := 0 }, { name := "name", type := (.object "java/lang/String"), accessFlags := 18, slot := 0, constantValue := 0 }, { name := "declaration", type := (.object "com/example/bridgr/bridgr/spec/Section"), accessFlags := 18, slot := 1, constantValue := 0 }, { name := "lowest", type := (.object "java/math/BigInteger"), accessFlags := 18, slot := 2, constantValue := 0 }, { name := "highest", type := (.object "java/math/BigInteger"), accessFlags := 18, slot := 3, constantValue := 0 }]
  methods := #[k11m0, k11m1, k11m2, k11m3]
  instanceTypes := #[(.object "java/lang/String"), (.object "com/example/bridgr/bridgr/spec/Section"), (.object "java/math/BigInteger"), (.object "java/math/BigInteger")]
  staticTypes := #[(.object "java/math/BigInteger")]
  resolved := Array.replicate 130 none
  statics := none }

def pool12 : Array CpInfo := pool [(2, .class_ 4), (1, u "java/lang/Object"), (0, u "<init>"), (0, u "()V"), (35, .class_ 44), (1, u "java/util/Objects"), (0, u "requireNonNull"), (0, u "(Ljava/lang/Object;)Ljava/lang/Object;")] 137

def k12m0 : Method := { name := "<init>", desc := "()V", sig := { parameters := [], returnType := none }, accessFlags := 2, code := none }
def k12c1 : Code := { maxStack := 2, maxLocals := 1, code := jdk_31_method_10_code, exceptionTable := #[], attributes := #[] }
def k12m1 : Method := { name := "requireNonNull", desc := "(Ljava/lang/Object;)Ljava/lang/Object;", sig := { parameters := [(.object "java/lang/Object")], returnType := some (.object "java/lang/Object") }, accessFlags := 9, code := some k12c1 }
/-- java/util/Objects -/
def k12 : Class := { plain "java/util/Objects" (some 0) with
  accessFlags := 49
  interfaces := #[]
  cf := some (fileOf pool12 42 #[] #[{ accessFlags := 2, nameIndex := 5, descriptorIndex := 6, attributes := #[] }, { accessFlags := 9, nameIndex := 45, descriptorIndex := 46, attributes := #[] }] 49 2 #[] #[])
  fields := #[]
  methods := #[k12m0, k12m1]
  instanceTypes := #[]
  staticTypes := #[]
  resolved := Array.replicate 184 none
  statics := none }

def pool13 : Array CpInfo := pool [(6, .class_ 8), (1, u "java/lang/Object"), (0, u "<init>"), (0, u "()V"), (1, .class_ 14), (1, u "java/lang/StringUTF16"), (31, u "$assertionsDisabled"), (0, u "Z"), (13, u "HI_BYTE_SHIFT"), (0, u "I"), (2, u "LO_BYTE_SHIFT"), (49, .methodref 12 116), (0, .nameAndType 117 118), (0, u "compress"), (0, u "([CI[BII)I"), (3, u "([CII)[B"), (138, u "coderFromArrayLen"), (0, u "([BI)B"), (106, .class_ 371), (1, u "java/lang/StringUTF16$LinesSpliterator"), (58, u "MAX_LENGTH"), (196, .class_ 628), (0, u "java/lang/StringUTF16$CodePointsSpliterator"), (0, .class_ 630), (0, u "java/lang/StringUTF16$CharsSpliterator")] 4

def k13m0 : Method := { name := "<init>", desc := "()V", sig := { parameters := [], returnType := none }, accessFlags := 0, code := none }
def k13c1 : Code := { maxStack := 2, maxLocals := 2, code := jdk_52_method_15_code, exceptionTable := #[], attributes := #[] }
def k13m1 : Method := { name := "coderFromArrayLen", desc := "([BI)B", sig := { parameters := [(.array .byte), .int], returnType := some .byte }, accessFlags := 8, code := some k13c1 }
def k13c2 : Code := { maxStack := 5, maxLocals := 6, code := jdk_52_method_16_code, exceptionTable := #[], attributes := #[] }
def k13m2 : Method := { name := "compress", desc := "([CII)[B", sig := { parameters := [(.array .char), .int, .int], returnType := some (.array .byte) }, accessFlags := 9, code := some k13c2 }
def k13c3 : Code := { maxStack := 3, maxLocals := 7, code := jdk_52_method_21_code, exceptionTable := #[], attributes := #[] }
def k13m3 : Method := { name := "compress", desc := "([CI[BII)I", sig := { parameters := [(.array .char), .int, (.array .byte), .int, .int], returnType := some .int }, accessFlags := 9, code := some k13c3 }
/-- java/lang/StringUTF16 -/
def k13 : Class := { plain "java/lang/StringUTF16" (some 0) with
  accessFlags := 48
  interfaces := #[]
  cf := some (fileOf pool13 12 #[.nestMembers #[627, 629, 369]] #[{ accessFlags := 0, nameIndex := 9, descriptorIndex := 10, attributes := #[] }, { accessFlags := 8, nameIndex := 261, descriptorIndex := 262, attributes := #[] }, { accessFlags := 9, nameIndex := 117, descriptorIndex := 122, attributes := #[] }, { accessFlags := 9, nameIndex := 117, descriptorIndex := 118, attributes := #[] }] 48 6 #[] #[{ accessFlags := 26, nameIndex := 61, descriptorIndex := 62, attributes := #[] }, { accessFlags := 26, nameIndex := 65, descriptorIndex := 62, attributes := #[] }, { accessFlags := 24, nameIndex := 430, descriptorIndex := 62, attributes := #[] }, { accessFlags := 4120, nameIndex := 46, descriptorIndex := 47, attributes := #[] }])
  fields := #[{ name := "HI_BYTE_SHIFT", type := .int, accessFlags := 26, slot := 0, constantValue := 0 }, { name := "LO_BYTE_SHIFT", type := .int, accessFlags := 26, slot := 1, constantValue := 0 }, { name := "MAX_LENGTH", type := .int, accessFlags := 24, slot := 2, constantValue := 0 }, { name := "$assertionsDisabled", type := .boolean, accessFlags := 4120, slot := 3, constantValue := 0 }]
  methods := #[k13m0, k13m1, k13m2, k13m3]
  instanceTypes := #[]
  staticTypes := #[.int, .int, .int, .boolean]
  resolved := Array.replicate 635 none
  statics := none }

def pool14 : Array CpInfo := pool [(2, .class_ 4), (1, u "java/lang/Object"), (0, u "<init>"), (0, u "()V"), (17, .class_ 26), (1, u "jdk/internal/util/Preconditions"), (28, .class_ 56), (0, u "jdk/internal/util/Preconditions$4"), (57, .class_ 115), (0, u "jdk/internal/util/Preconditions$1"), (7, u "SIOOBE_FORMATTER"), (0, u "Ljava/util/function/BiFunction;"), (0, .class_ 126), (0, u "jdk/internal/util/Preconditions$2"), (3, u "AIOOBE_FORMATTER"), (0, .class_ 132), (0, u "jdk/internal/util/Preconditions$3"), (3, u "IOOBE_FORMATTER")] 57

def k14m0 : Method := { name := "<init>", desc := "()V", sig := { parameters := [], returnType := none }, accessFlags := 1, code := none }
/-- jdk/internal/util/Preconditions -/
def k14 : Class := { plain "jdk/internal/util/Preconditions" (some 0) with
  accessFlags := 33
  interfaces := #[]
  cf := some (fileOf pool14 24 #[.nestMembers #[55, 131, 125, 114]] #[{ accessFlags := 1, nameIndex := 5, descriptorIndex := 6, attributes := #[] }] 33 2 #[] #[{ accessFlags := 25, nameIndex := 123, descriptorIndex := 124, attributes := #[] }, { accessFlags := 25, nameIndex := 130, descriptorIndex := 124, attributes := #[] }, { accessFlags := 25, nameIndex := 136, descriptorIndex := 124, attributes := #[] }])
  fields := #[{ name := "SIOOBE_FORMATTER", type := (.object "java/util/function/BiFunction"), accessFlags := 25, slot := 0, constantValue := 0 }, { name := "AIOOBE_FORMATTER", type := (.object "java/util/function/BiFunction"), accessFlags := 25, slot := 1, constantValue := 0 }, { name := "IOOBE_FORMATTER", type := (.object "java/util/function/BiFunction"), accessFlags := 25, slot := 2, constantValue := 0 }]
  methods := #[k14m0]
  instanceTypes := #[]
  staticTypes := #[(.object "java/util/function/BiFunction"), (.object "java/util/function/BiFunction"), (.object "java/util/function/BiFunction")]
  resolved := Array.replicate 194 none
  statics := some 2 }

def pool15 : Array CpInfo := pool [(9, u "<init>"), (6, .class_ 18), (1, u "java/lang/Object"), (0, u "()V"), (1, .class_ 23), (1, u "jdk/internal/util/ArraysSupport"), (0, u "LOG2_ARRAY_LONG_INDEX_SCALE"), (0, u "I"), (2, u "U"), (0, u "Ljdk/internal/misc/Unsafe;"), (8, u "BIG_ENDIAN"), (0, u "Z"), (8, u "LOG2_BYTE_BIT_SIZE"), (4, u "LOG2_ARRAY_INT_INDEX_SCALE"), (54, u "JLA"), (0, u "Ljdk/internal/access/JavaLangAccess;"), (11, u "LOG2_ARRAY_BOOLEAN_INDEX_SCALE"), (9, u "LOG2_ARRAY_BYTE_INDEX_SCALE"), (5, u "LOG2_ARRAY_CHAR_INDEX_SCALE"), (5, u "LOG2_ARRAY_SHORT_INDEX_SCALE"), (18, u "LOG2_ARRAY_FLOAT_INDEX_SCALE"), (24, u "LOG2_ARRAY_DOUBLE_INDEX_SCALE"), (89, u "T_BOOLEAN"), (2, u "T_CHAR"), (1, u "T_FLOAT"), (1, u "T_DOUBLE"), (1, u "T_BYTE"), (1, u "T_SHORT"), (1, u "T_INT"), (1, u "T_LONG"), (1, u "SOFT_MAX_ARRAY_LENGTH")] 83

def k15m0 : Method := { name := "<init>", desc := "()V", sig := { parameters := [], returnType := none }, accessFlags := 2, code := none }
/-- jdk/internal/util/ArraysSupport -/
def k15 : Class := { plain "jdk/internal/util/ArraysSupport" (some 0) with
  accessFlags := 33
  interfaces := #[]
  cf := some (fileOf pool15 21 #[] #[{ accessFlags := 2, nameIndex := 9, descriptorIndex := 19, attributes := #[] }] 33 16 #[] #[{ accessFlags := 24, nameIndex := 28, descriptorIndex := 29, attributes := #[] }, { accessFlags := 26, nameIndex := 38, descriptorIndex := 39, attributes := #[] }, { accessFlags := 25, nameIndex := 121, descriptorIndex := 25, attributes := #[] }, { accessFlags := 25, nameIndex := 131, descriptorIndex := 25, attributes := #[] }, { accessFlags := 25, nameIndex := 137, descriptorIndex := 25, attributes := #[] }, { accessFlags := 25, nameIndex := 143, descriptorIndex := 25, attributes := #[] }, { accessFlags := 25, nameIndex := 53, descriptorIndex := 25, attributes := #[] }, { accessFlags := 25, nameIndex := 24, descriptorIndex := 25, attributes := #[] }, { accessFlags := 25, nameIndex := 162, descriptorIndex := 25, attributes := #[] }, { accessFlags := 25, nameIndex := 187, descriptorIndex := 25, attributes := #[] }, { accessFlags := 26, nameIndex := 48, descriptorIndex := 25, attributes := #[] }, { accessFlags := 25, nameIndex := 277, descriptorIndex := 25, attributes := #[] }, { accessFlags := 25, nameIndex := 280, descriptorIndex := 25, attributes := #[] }, { accessFlags := 25, nameIndex := 282, descriptorIndex := 25, attributes := #[] }, { accessFlags := 25, nameIndex := 284, descriptorIndex := 25, attributes := #[] }, { accessFlags := 25, nameIndex := 286, descriptorIndex := 25, attributes := #[] }, { accessFlags := 25, nameIndex := 288, descriptorIndex := 25, attributes := #[] }, { accessFlags := 25, nameIndex := 290, descriptorIndex := 25, attributes := #[] }, { accessFlags := 25, nameIndex := 292, descriptorIndex := 25, attributes := #[] }, { accessFlags := 26, nameIndex := 108, descriptorIndex := 109, attributes := #[] }, { accessFlags := 25, nameIndex := 294, descriptorIndex := 25, attributes := #[] }])
  fields := #[{ name := "U", type := (.object "jdk/internal/misc/Unsafe"), accessFlags := 24, slot := 0, constantValue := 0 }, { name := "BIG_ENDIAN", type := .boolean, accessFlags := 26, slot := 1, constantValue := 0 }, { name := "LOG2_ARRAY_BOOLEAN_INDEX_SCALE", type := .int, accessFlags := 25, slot := 2, constantValue := 0 }, { name := "LOG2_ARRAY_BYTE_INDEX_SCALE", type := .int, accessFlags := 25, slot := 3, constantValue := 0 }, { name := "LOG2_ARRAY_CHAR_INDEX_SCALE", type := .int, accessFlags := 25, slot := 4, constantValue := 0 }, { name := "LOG2_ARRAY_SHORT_INDEX_SCALE", type := .int, accessFlags := 25, slot := 5, constantValue := 0 }, { name := "LOG2_ARRAY_INT_INDEX_SCALE", type := .int, accessFlags := 25, slot := 6, constantValue := 0 }, { name := "LOG2_ARRAY_LONG_INDEX_SCALE", type := .int, accessFlags := 25, slot := 7, constantValue := 0 }, { name := "LOG2_ARRAY_FLOAT_INDEX_SCALE", type := .int, accessFlags := 25, slot := 8, constantValue := 0 }, { name := "LOG2_ARRAY_DOUBLE_INDEX_SCALE", type := .int, accessFlags := 25, slot := 9, constantValue := 0 }, { name := "LOG2_BYTE_BIT_SIZE", type := .int, accessFlags := 26, slot := 10, constantValue := 0 }, { name := "T_BOOLEAN", type := .int, accessFlags := 25, slot := 11, constantValue := 0 }, { name := "T_CHAR", type := .int, accessFlags := 25, slot := 12, constantValue := 0 }, { name := "T_FLOAT", type := .int, accessFlags := 25, slot := 13, constantValue := 0 }, { name := "T_DOUBLE", type := .int, accessFlags := 25, slot := 14, constantValue := 0 }, { name := "T_BYTE", type := .int, accessFlags := 25, slot := 15, constantValue := 0 }, { name := "T_SHORT", type := .int, accessFlags := 25, slot := 16, constantValue := 0 }, { name := "T_INT", type := .int, accessFlags := 25, slot := 17, constantValue := 0 }, { name := "T_LONG", type := .int, accessFlags := 25, slot := 18, constantValue := 0 }, { name := "JLA", type := (.object "jdk/internal/access/JavaLangAccess"), accessFlags := 26, slot := 19, constantValue := 0 }, { name := "SOFT_MAX_ARRAY_LENGTH", type := .int, accessFlags := 25, slot := 20, constantValue := 0 }]
  methods := #[k15m0]
  instanceTypes := #[]
  staticTypes := #[(.object "jdk/internal/misc/Unsafe"), .boolean, .int, .int, .int, .int, .int, .int, .int, .int, .int, .int, .int, .int, .int, .int, .int, .int, .int, (.object "jdk/internal/access/JavaLangAccess"), .int]
  resolved := Array.replicate 378 none
  statics := none }

def pool16 : Array CpInfo := pool [(1, u "java/lang/Cloneable"), (0, .class_ 1), (0, u "java/lang/Object"), (0, .class_ 3)] 3

/-- java/lang/Cloneable -/
def k16 : Class := { plain "java/lang/Cloneable" (some 0) with
  accessFlags := 1537
  interfaces := #[]
  cf := some (fileOf pool16 2 #[] #[] 1537 4 #[] #[])
  fields := #[]
  methods := #[]
  instanceTypes := #[]
  staticTypes := #[]
  resolved := Array.replicate 8 none
  statics := none }

/-- the primitive byte -/
def k17 : Class := { plain "byte" none with kind := .primitive 'B', accessFlags := 0x411 }
/-- [B -/
def k18 : Class := { plain "[B" (some 0) with kind := .array 17 .byte, interfaces := #[16, 4], accessFlags := 1041 }

/-- the primitive char -/
def k19 : Class := { plain "char" none with kind := .primitive 'C', accessFlags := 0x411 }
/-- [C -/
def k20 : Class := { plain "[C" (some 0) with kind := .array 19 .char, interfaces := #[16, 4], accessFlags := 1041 }

/-- the primitive int -/
def k21 : Class := { plain "int" none with kind := .primitive 'I', accessFlags := 0x411 }
/-- [I -/
def k22 : Class := { plain "[I" (some 0) with kind := .array 21 .int, interfaces := #[16, 4], accessFlags := 1041 }

def heap : Heap := #[{ cls := 6, slots := #[.ref 4, .ref 3, .null, .null, .null, .null, .null, .null, .null], vm := .statics 6 },
  { cls := 9, slots := #[.long 0, .int 1, .null, .int 0, .null, .int 0, .int 0], vm := .statics 9 },
  { cls := 14, slots := #[.null, .null, .null], vm := .statics 14 },
  { cls := 6, slots := #[.null, .int 1, .int 0], vm := .none },
  { cls := 6, slots := #[.null, .int 0, .int 0], vm := .none }]
def classes : Array Class := #[k0, k1, k2, k3, k4, k5, k6, k7, k8, k9, k10, k11, k12, k13, k14, k15, k16, k17, k18, k19, k20, k21, k22]
def interned : List (Array UInt16 × Addr) := []
def slotsUsed : Nat := 25
def theMethod : MethodId := ⟨1, 1⟩
def args0 : Array Value := #[.int 3, .int 65, .int 66]
def aboutOver (below : List Frame) : State where
  vm := { classes := classes, interned := interned.toArray }
  heap := heap
  slotsUsed := slotsUsed
  threads := #[{ frames := .invoking theMethod args0 :: below }]
def below0 : List Frame := [.native { method := ⟨0, 0⟩, args := #[] }]
def about1 : State := aboutOver below0
def p0 : Program := .bare "" "" ""
def e0 : Env := launch0.env 0 0 0
theorem w_frames : about1.frames = Frame.invoking theMethod args0 :: below0 := rfl
set_option maxRecDepth 65536 in
theorem w_args : argsFit about1.vm theMethod args0 = true := by decide +kernel
set_option maxRecDepth 65536 in
theorem w_heap : heapFits about1 = true := by decide +kernel
set_option maxRecDepth 65536 in
theorem w_runnable : about1.curStatus? = some .runnable := by decide +kernel
set_option maxRecDepth 65536 in
theorem w_alone : about1.alone = true := by decide +kernel
set_option maxRecDepth 65536 in
theorem w_named : about1.methodNamed? x = some theMethod := by decide +kernel
set_option maxRecDepth 65536 in
theorem w_hears : about1.hears theMethod below0 = true := by decide +kernel
set_option maxRecDepth 65536 in
theorem w_ripe : about1.ripe theMethod args0 below0 = true := by decide +kernel
theorem w_running : about1.status = .running := rfl
set_option maxRecDepth 65536 in
theorem w_room : about1.hasRoom e0.platform room_1 = true :=
  launch0.hasRoom_least _ room_1 (by decide +kernel) (by decide +kernel) (by decide +kernel) (by decide +kernel) (by decide +kernel) (by decide +kernel)
theorem allAtoms_all (ts : List Jvm.Cond) (a : Array Jvm.Value) (st : Jvm.State) : (allAtoms ts).before a st = ts.all (fun c => c.before a st) := by
  induction ts with
  | nil => rfl
  | cons c t ih =>
    show (Jvm.Cond.and c (allAtoms t)).before a st = _
    rw [Jvm.Cond.before_and, ih, List.all_cons]
def words1 : List Jvm.Cond := Jvm.Cond.code x code maxLocals ret :: tables_1
/-- a 'code' word, met by the world's own term for the bytes: nothing is compared byte by byte -/
theorem code_word {y : MethodName} {bytes : ByteArray} {mx : Nat} {rt : Option FieldType} {a : Array Value} {s : State} {m : MethodId} {meth : Method} {c : Code} (h1 : s.methodNamed? y = some m) (h2 : s.vm.method? m = some meth) (h3 : meth.code = some c) (h4 : c.code = bytes)
    (h5 : (c.maxLocals == mx && c.exceptionTable.isEmpty && decide (c.maxStack ≤ mostOperands) && decide (meth.sig.returnType = rt) && !meth.locks && decide (parseMethodDescriptor y.desc = some meth.sig)) = true) : (Jvm.Cond.code y bytes mx rt).before a s = true := by
  simp only [Bool.and_eq_true, beq_iff_eq, Bool.not_eq_true', decide_eq_true_eq] at h5
  obtain ⟨⟨⟨⟨⟨g1, g2⟩, g3⟩, g4⟩, g5⟩, g6⟩ := h5
  simp [Cond.before, Cond.holds, Cond.value, h1, h2, h3, h4, g1, g2, g3, g4, g5, g6]
def isCode : Jvm.Cond → Bool
  | .code _ _ _ _ => true
  | _ => false
theorem all_split {L : List Jvm.Cond} {P : Jvm.Cond → Bool} (h1 : L.all (fun c => isCode c || P c) = true) (h2 : ∀ c ∈ L.filter isCode, P c = true) : L.all P = true := by
  refine List.all_eq_true.mpr fun c hc => ?_
  have h := List.all_eq_true.mp h1 c hc
  rcases Bool.eq_false_or_eq_true (isCode c) with hi | hi
  · exact h2 c (List.mem_filter.mpr ⟨hc, hi⟩)
  · simpa [hi] using h
set_option maxRecDepth 65536 in
theorem w_c0 : (Jvm.Cond.code x code maxLocals ret).before args0 about1 = true := code_word (m := ⟨1, 1⟩) (meth := k1m1) (c := k1c1) (by decide +kernel) rfl rfl rfl (by decide +kernel)
set_option maxRecDepth 65536 in
theorem w_c1 : (Jvm.Cond.code ({ cls := "java/lang/String", name := "valueOf", desc := "(C)Ljava/lang/String;" } : Jvm.MethodName) jdk_42_method_139_code (1 : Nat) (Option.some (Jvm.ClassFile.FieldType.object "java/lang/String"))).before args0 about1 = true := code_word (m := ⟨9, 2⟩) (meth := k9m2) (c := k9c2) (by decide +kernel) rfl rfl rfl (by decide +kernel)
set_option maxRecDepth 65536 in
theorem w_c2 : (Jvm.Cond.code ({ cls := "java/lang/StringLatin1", name := "canEncode", desc := "(C)Z" } : Jvm.MethodName) jdk_43_method_3_code (1 : Nat) (Option.some Jvm.ClassFile.FieldType.boolean)).before args0 about1 = true := code_word (m := ⟨10, 1⟩) (meth := k10m1) (c := k10c1) (by decide +kernel) rfl rfl rfl (by decide +kernel)
set_option maxRecDepth 65536 in
theorem w_c3 : (Jvm.Cond.code ({ cls := "java/lang/StringLatin1", name := "toBytes", desc := "(C)[B" } : Jvm.MethodName) jdk_43_method_46_code (1 : Nat) (Option.some (Jvm.ClassFile.FieldType.array Jvm.ClassFile.FieldType.byte))).before args0 about1 = true := code_word (m := ⟨10, 2⟩) (meth := k10m2) (c := k10c2) (by decide +kernel) rfl rfl rfl (by decide +kernel)
set_option maxRecDepth 65536 in
theorem w_c4 : (Jvm.Cond.code ({ cls := "java/lang/String", name := "<init>", desc := "([BB)V" } : Jvm.MethodName) jdk_42_method_151_code (3 : Nat) (Option.none : Option Jvm.ClassFile.FieldType)).before args0 about1 = true := code_word (m := ⟨9, 4⟩) (meth := k9m4) (c := k9c4) (by decide +kernel) rfl rfl rfl (by decide +kernel)
set_option maxRecDepth 65536 in
theorem w_c5 : (Jvm.Cond.code ({ cls := "java/lang/Object", name := "<init>", desc := "()V" } : Jvm.MethodName) object_method_1_code (1 : Nat) (Option.none : Option Jvm.ClassFile.FieldType)).before args0 about1 = true := code_word (m := ⟨0, 0⟩) (meth := k0m0) (c := k0c0) (by decide +kernel) rfl rfl rfl (by decide +kernel)
set_option maxRecDepth 65536 in
theorem w_c6 : (Jvm.Cond.code ({ cls := "com/example/bridgr/bridgr/spec/Variable", name := "<init>", desc := "(Ljava/lang/String;Lcom/example/bridgr/bridgr/spec/Section;)V" } : Jvm.MethodName) prog_30_method_1_code (3 : Nat) (Option.none : Option Jvm.ClassFile.FieldType)).before args0 about1 = true := code_word (m := ⟨11, 0⟩) (meth := k11m0) (c := k11c0) (by decide +kernel) rfl rfl rfl (by decide +kernel)
set_option maxRecDepth 65536 in
theorem w_c7 : (Jvm.Cond.code ({ cls := "java/util/Objects", name := "requireNonNull", desc := "(Ljava/lang/Object;)Ljava/lang/Object;" } : Jvm.MethodName) jdk_31_method_10_code (1 : Nat) (Option.some (Jvm.ClassFile.FieldType.object "java/lang/Object"))).before args0 about1 = true := code_word (m := ⟨12, 1⟩) (meth := k12m1) (c := k12c1) (by decide +kernel) rfl rfl rfl (by decide +kernel)
set_option maxRecDepth 65536 in
theorem w_c8 : (Jvm.Cond.code ({ cls := "com/example/bridgr/bridgr/spec/Variable", name := "checkDeclaration", desc := "(Lcom/example/bridgr/bridgr/spec/Section;)Lcom/example/bridgr/bridgr/spec/Section;" } : Jvm.MethodName) prog_30_method_3_code (1 : Nat) (Option.some (Jvm.ClassFile.FieldType.object "com/example/bridgr/bridgr/spec/Section"))).before args0 about1 = true := code_word (m := ⟨11, 1⟩) (meth := k11m1) (c := k11c1) (by decide +kernel) rfl rfl rfl (by decide +kernel)
set_option maxRecDepth 65536 in
theorem w_c9 : (Jvm.Cond.code ({ cls := "com/example/bridgr/bridgr/spec/Section", name := "declaresVariables", desc := "()Z" } : Jvm.MethodName) prog_19_method_6_code (1 : Nat) (Option.some Jvm.ClassFile.FieldType.boolean)).before args0 about1 = true := code_word (m := ⟨6, 0⟩) (meth := k6m0) (c := k6c0) (by decide +kernel) rfl rfl rfl (by decide +kernel)
set_option maxRecDepth 65536 in
theorem w_c10 : (Jvm.Cond.code ({ cls := "com/example/bridgr/bridgr/spec/Variable", name := "isInput", desc := "()Z" } : Jvm.MethodName) prog_30_method_6_code (1 : Nat) (Option.some Jvm.ClassFile.FieldType.boolean)).before args0 about1 = true := code_word (m := ⟨11, 3⟩) (meth := k11m3) (c := k11c3) (by decide +kernel) rfl rfl rfl (by decide +kernel)
set_option maxRecDepth 65536 in
theorem w_c11 : (Jvm.Cond.code ({ cls := "com/example/bridgr/bridgr/spec/Variable", name := "declaration", desc := "()Lcom/example/bridgr/bridgr/spec/Section;" } : Jvm.MethodName) prog_30_method_5_code (1 : Nat) (Option.some (Jvm.ClassFile.FieldType.object "com/example/bridgr/bridgr/spec/Section"))).before args0 about1 = true := code_word (m := ⟨11, 2⟩) (meth := k11m2) (c := k11c2) (by decide +kernel) rfl rfl rfl (by decide +kernel)
set_option maxRecDepth 65536 in
theorem w_c12 : (Jvm.Cond.code ({ cls := "java/lang/String", name := "<init>", desc := "([C)V" } : Jvm.MethodName) jdk_42_method_3_code (2 : Nat) (Option.none : Option Jvm.ClassFile.FieldType)).before args0 about1 = true := code_word (m := ⟨9, 1⟩) (meth := k9m1) (c := k9c1) (by decide +kernel) rfl rfl rfl (by decide +kernel)
set_option maxRecDepth 65536 in
theorem w_c13 : (Jvm.Cond.code ({ cls := "java/lang/String", name := "<init>", desc := "([CIILjava/lang/Void;)V" } : Jvm.MethodName) jdk_42_method_149_code (6 : Nat) (Option.none : Option Jvm.ClassFile.FieldType)).before args0 about1 = true := code_word (m := ⟨9, 3⟩) (meth := k9m3) (c := k9c3) (by decide +kernel) rfl rfl rfl (by decide +kernel)
set_option maxRecDepth 65536 in
theorem w_c14 : (Jvm.Cond.code ({ cls := "java/lang/StringUTF16", name := "compress", desc := "([CII)[B" } : Jvm.MethodName) jdk_52_method_16_code (6 : Nat) (Option.some (Jvm.ClassFile.FieldType.array Jvm.ClassFile.FieldType.byte))).before args0 about1 = true := code_word (m := ⟨13, 2⟩) (meth := k13m2) (c := k13c2) (by decide +kernel) rfl rfl rfl (by decide +kernel)
set_option maxRecDepth 65536 in
theorem w_c15 : (Jvm.Cond.code ({ cls := "java/lang/StringUTF16", name := "compress", desc := "([CI[BII)I" } : Jvm.MethodName) jdk_52_method_21_code (7 : Nat) (Option.some Jvm.ClassFile.FieldType.int)).before args0 about1 = true := code_word (m := ⟨13, 3⟩) (meth := k13m3) (c := k13c3) (by decide +kernel) rfl rfl rfl (by decide +kernel)
set_option maxRecDepth 65536 in
theorem w_c16 : (Jvm.Cond.code ({ cls := "java/lang/StringUTF16", name := "coderFromArrayLen", desc := "([BI)B" } : Jvm.MethodName) jdk_52_method_15_code (2 : Nat) (Option.some Jvm.ClassFile.FieldType.byte)).before args0 about1 = true := code_word (m := ⟨13, 1⟩) (meth := k13m1) (c := k13c1) (by decide +kernel) rfl rfl rfl (by decide +kernel)
def codes1 : List Jvm.Cond := [Jvm.Cond.code x code maxLocals ret, Jvm.Cond.code ({ cls := "java/lang/String", name := "valueOf", desc := "(C)Ljava/lang/String;" } : Jvm.MethodName) jdk_42_method_139_code (1 : Nat) (Option.some (Jvm.ClassFile.FieldType.object "java/lang/String")), Jvm.Cond.code ({ cls := "java/lang/StringLatin1", name := "canEncode", desc := "(C)Z" } : Jvm.MethodName) jdk_43_method_3_code (1 : Nat) (Option.some Jvm.ClassFile.FieldType.boolean), Jvm.Cond.code ({ cls := "java/lang/StringLatin1", name := "toBytes", desc := "(C)[B" } : Jvm.MethodName) jdk_43_method_46_code (1 : Nat) (Option.some (Jvm.ClassFile.FieldType.array Jvm.ClassFile.FieldType.byte)), Jvm.Cond.code ({ cls := "java/lang/String", name := "<init>", desc := "([BB)V" } : Jvm.MethodName) jdk_42_method_151_code (3 : Nat) (Option.none : Option Jvm.ClassFile.FieldType), Jvm.Cond.code ({ cls := "java/lang/Object", name := "<init>", desc := "()V" } : Jvm.MethodName) object_method_1_code (1 : Nat) (Option.none : Option Jvm.ClassFile.FieldType), Jvm.Cond.code ({ cls := "com/example/bridgr/bridgr/spec/Variable", name := "<init>", desc := "(Ljava/lang/String;Lcom/example/bridgr/bridgr/spec/Section;)V" } : Jvm.MethodName) prog_30_method_1_code (3 : Nat) (Option.none : Option Jvm.ClassFile.FieldType), Jvm.Cond.code ({ cls := "java/util/Objects", name := "requireNonNull", desc := "(Ljava/lang/Object;)Ljava/lang/Object;" } : Jvm.MethodName) jdk_31_method_10_code (1 : Nat) (Option.some (Jvm.ClassFile.FieldType.object "java/lang/Object")), Jvm.Cond.code ({ cls := "com/example/bridgr/bridgr/spec/Variable", name := "checkDeclaration", desc := "(Lcom/example/bridgr/bridgr/spec/Section;)Lcom/example/bridgr/bridgr/spec/Section;" } : Jvm.MethodName) prog_30_method_3_code (1 : Nat) (Option.some (Jvm.ClassFile.FieldType.object "com/example/bridgr/bridgr/spec/Section")), Jvm.Cond.code ({ cls := "com/example/bridgr/bridgr/spec/Section", name := "declaresVariables", desc := "()Z" } : Jvm.MethodName) prog_19_method_6_code (1 : Nat) (Option.some Jvm.ClassFile.FieldType.boolean), Jvm.Cond.code ({ cls := "com/example/bridgr/bridgr/spec/Variable", name := "isInput", desc := "()Z" } : Jvm.MethodName) prog_30_method_6_code (1 : Nat) (Option.some Jvm.ClassFile.FieldType.boolean), Jvm.Cond.code ({ cls := "com/example/bridgr/bridgr/spec/Variable", name := "declaration", desc := "()Lcom/example/bridgr/bridgr/spec/Section;" } : Jvm.MethodName) prog_30_method_5_code (1 : Nat) (Option.some (Jvm.ClassFile.FieldType.object "com/example/bridgr/bridgr/spec/Section")), Jvm.Cond.code ({ cls := "java/lang/String", name := "<init>", desc := "([C)V" } : Jvm.MethodName) jdk_42_method_3_code (2 : Nat) (Option.none : Option Jvm.ClassFile.FieldType), Jvm.Cond.code ({ cls := "java/lang/String", name := "<init>", desc := "([CIILjava/lang/Void;)V" } : Jvm.MethodName) jdk_42_method_149_code (6 : Nat) (Option.none : Option Jvm.ClassFile.FieldType), Jvm.Cond.code ({ cls := "java/lang/StringUTF16", name := "compress", desc := "([CII)[B" } : Jvm.MethodName) jdk_52_method_16_code (6 : Nat) (Option.some (Jvm.ClassFile.FieldType.array Jvm.ClassFile.FieldType.byte)), Jvm.Cond.code ({ cls := "java/lang/StringUTF16", name := "compress", desc := "([CI[BII)I" } : Jvm.MethodName) jdk_52_method_21_code (7 : Nat) (Option.some Jvm.ClassFile.FieldType.int), Jvm.Cond.code ({ cls := "java/lang/StringUTF16", name := "coderFromArrayLen", desc := "([BI)B" } : Jvm.MethodName) jdk_52_method_15_code (2 : Nat) (Option.some Jvm.ClassFile.FieldType.byte)]
set_option maxRecDepth 65536 in
theorem codes_eq : words1.filter isCode = codes1 := rfl
theorem w_codes : ∀ c ∈ words1.filter isCode, c.before args0 about1 = true := by
  rw [codes_eq]
  intro c hc
  simp only [codes1, List.mem_cons, List.not_mem_nil, or_false] at hc
  rcases hc with rfl | rfl | rfl | rfl | rfl | rfl | rfl | rfl | rfl | rfl | rfl | rfl | rfl | rfl | rfl | rfl | rfl
  · exact w_c0
  · exact w_c1
  · exact w_c2
  · exact w_c3
  · exact w_c4
  · exact w_c5
  · exact w_c6
  · exact w_c7
  · exact w_c8
  · exact w_c9
  · exact w_c10
  · exact w_c11
  · exact w_c12
  · exact w_c13
  · exact w_c14
  · exact w_c15
  · exact w_c16
set_option maxRecDepth 65536 in
theorem w_t1 : (words1.take 24).all (fun c => isCode c || c.before args0 about1) = true := by decide +kernel
set_option maxRecDepth 65536 in
theorem w_t2 : ((words1.drop 24).take 24).all (fun c => isCode c || c.before args0 about1) = true := by decide +kernel
set_option maxRecDepth 65536 in
theorem w_t3 : (((words1.drop 24).drop 24).take 24).all (fun c => isCode c || c.before args0 about1) = true := by decide +kernel
set_option maxRecDepth 65536 in
theorem w_t4 : (((words1.drop 24).drop 24).drop 24).all (fun c => isCode c || c.before args0 about1) = true := by decide +kernel
theorem w_tables : (allAtoms (Jvm.Cond.code x code maxLocals ret :: tables_1)).before args0 about1 = true := by
  rw [allAtoms_all]
  show words1.all (fun c => c.before args0 about1) = true
  refine all_split ?_ w_codes
  rw [← List.take_append_drop 24 words1, List.all_append, w_t1, ← List.take_append_drop 24 (words1.drop 24), List.all_append, w_t2, ← List.take_append_drop 24 ((words1.drop 24).drop 24), List.all_append, w_t3, w_t4]
  rfl
set_option maxRecDepth 65536 in
theorem w_rest : rest_1_c.before args0 about1 = true := by decide +kernel
set_option maxRecDepth 65536 in
theorem w_case : (Jvm.Cond.and given_1 narrow_1).before args0 about1 = true := by decide +kernel
theorem w_applies : (headSpec (Jvm.Cond.code x code maxLocals ret :: tables_1) room_1).applies x e0.platform about1 = true :=
  (Spec.applies_iff w_frames).mpr ⟨w_running, w_runnable, w_alone, w_named, w_hears, w_ripe, w_room, w_tables⟩
theorem atStart : AtStart classFile x code maxLocals ret World_1 tables_1 room_1 Calls_1 rest_1 Pre_1 launch0 p0 e0 about1 theMethod args0 below0 :=
  ⟨lists_1, trivial, launch0.admits_env _ _ _, launch0.least_env, fairChoices_fair.cas, fairChoices_fair.clock, w_frames, w_args, w_heap, w_applies, trivial, w_rest, w_case⟩
end start1
theorem witness_1 : WitnessClaimed_1 := ⟨start1.p0, start1.e0, start1.about1, start1.theMethod, start1.args0, start1.below0, start1.atStart⟩
end Jvm.Pilot.@@N@@
