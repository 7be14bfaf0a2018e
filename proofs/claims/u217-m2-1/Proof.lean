import JvmDerived
import JvmDerived.Pilot.@@N@@Statement
import JvmDerived.Pilot.@@N@@Code
set_option linter.unusedVariables false
set_option linter.unusedSimpArgs false
/- laws to paste: Road.chN, Road.codOf (cut by pick.py; bodies as the Statement names them) -/
namespace Jvm.Pilot.@@N@@
namespace StrChars
open Jvm Sem ClassFile Op Lib Jvm.Stand Jvm.Free.XT Jvm.Free.ALB Jvm.Free.JM Jvm.Free
open Jvm.Lib.Cold (StaticIs)
/-- a char array whose places are chars -/
def Ch (a : Addr) (A : Cell) (U : State) : Prop := Arr .char a A U ∧ Typed .char A
theorem Ch.mv {a : Addr} {A : Cell} {U U' : State} (h : Ch a A U) (hal : U.vm.Alike U'.vm) (hh : U'.heap = U.heap) : Ch a A U' := ⟨h.1.mv hal hh, h.2⟩
theorem Ch.keep {a : Addr} {A : Cell} {U U' : State} (h : Ch a A U) (hal : U.vm.Alike U'.vm) (hk : U'.heap[a]? = some A) : Ch a A U' := ⟨h.1.keep hal hk, h.2⟩
/-- what place i of a char[]'s cell holds -/
def cv (A : Cell) (i : Nat) : Int32 := match A.slots[i]? with | some (.int x) => x | _ => 0
theorem Ch.get {a : Addr} {A : Cell} {U : State} (h : Ch a A U) {i : Nat} (hi : i < A.slots.size) : A.slots[i]? = some (.int (cv A i)) := by
  have e := Array.getElem?_eq_getElem hi
  have f := h.2 i _ e
  unfold cv; rw [e]
  generalize A.slots[i] = v at f
  cases v <;> simp [fits] at f ⊢
/-- the byte that i2b leaves of a char -/
def lo8 (x : Int32) : Int32 := x.toInt8.toInt32
theorem fits_lo8 (y : Int32) : fits .byte (.int (lo8 y)) = true := by
  have h1 := y.toInt8.le_toInt
  have h2 := y.toInt8.toInt_lt
  simp only [lo8, fits, Bool.and_eq_true, decide_eq_true_eq, Int32.le_iff_toInt_le, Int8.toInt_toInt32, show (-128 : Int32).toInt = -128 from by decide, show (127 : Int32).toInt = 127 from by decide]
  omega
/-- A' is A but that each place j of lo .. hi - 1 holds f j -/
def Laid (A A' : Cell) (lo hi : Nat) (f : Nat → Value) : Prop := A'.cls = A.cls ∧ A'.vm = A.vm ∧ A'.slots.size = A.slots.size ∧ ∀ i, A'.slots[i]? = if lo ≤ i ∧ i < hi then some (f i) else A.slots[i]?
theorem Laid.zero (A : Cell) (lo : Nat) (f : Nat → Value) : Laid A A lo (lo + 0) f := ⟨rfl, rfl, rfl, fun i => by rw [if_neg (by omega)]⟩
theorem Laid.step {A Ak : Cell} {lo k : Nat} {f : Nat → Value} {v : Value} (h : Laid A Ak lo k f) (hlo : lo ≤ k) (hk : k < Ak.slots.size) (hv : v = f k) : Laid A (Ak.setSlot k v) lo (k + 1) f := by
  refine ⟨h.1, h.2.1, by simpa [Cell.setSlot] using h.2.2.1, fun i => ?_⟩
  by_cases e : k = i
  · subst e; rw [Cell.slots_setSlot_self v hk, if_pos (by omega), hv]
  · rw [Cell.slots_setSlot_ne v e, h.2.2.2 i]
    by_cases q : lo ≤ i ∧ i < k
    · rw [if_pos q, if_pos (by omega)]
    · rw [if_neg q, if_neg (by omega)]
def U16 : String := "java/lang/StringUTF16"
namespace Cmp5
def yN : MethodName := ⟨"java/lang/StringUTF16", "compress", "([CI[BII)I"⟩
abbrev yB : ByteArray := jdk_52_method_21_code
theorem d0 : decode yB 0 = .ok (.iconst 0, 1) := by decide +kernel
theorem d1 : decode yB 1 = .ok (.istore 5, 2) := by decide +kernel
theorem d3 : decode yB 3 = .ok (.iload 5, 2) := by decide +kernel
theorem d5 : decode yB 5 = .ok (.iload 4, 2) := by decide +kernel
theorem d7 : decode yB 7 = .ok (.if_icmp (.ge) 37, 3) := by decide +kernel
theorem d10 : decode yB 10 = .ok (.aload_n 0, 1) := by decide +kernel
theorem d11 : decode yB 11 = .ok (.iload_n 1, 1) := by decide +kernel
theorem d12 : decode yB 12 = .ok (.caload, 1) := by decide +kernel
theorem d13 : decode yB 13 = .ok (.istore 6, 2) := by decide +kernel
theorem d15 : decode yB 15 = .ok (.iload 6, 2) := by decide +kernel
theorem d17 : decode yB 17 = .ok (.sipush 255, 3) := by decide +kernel
theorem d20 : decode yB 20 = .ok (.if_icmp (.le) 6, 3) := by decide +kernel
theorem d26 : decode yB 26 = .ok (.aload_n 2, 1) := by decide +kernel
theorem d27 : decode yB 27 = .ok (.iload_n 3, 1) := by decide +kernel
theorem d28 : decode yB 28 = .ok (.iload 6, 2) := by decide +kernel
theorem d30 : decode yB 30 = .ok (.i2b, 1) := by decide +kernel
theorem d31 : decode yB 31 = .ok (.bastore, 1) := by decide +kernel
theorem d32 : decode yB 32 = .ok (.iinc 1 1, 3) := by decide +kernel
theorem d35 : decode yB 35 = .ok (.iinc 3 1, 3) := by decide +kernel
theorem d38 : decode yB 38 = .ok (.iinc 5 1, 3) := by decide +kernel
theorem d41 : decode yB 41 = .ok (.goto (-38), 3) := by decide +kernel
theorem d44 : decode yB 44 = .ok (.iload 4, 2) := by decide +kernel
theorem d46 : decode yB 46 = .ok (.ireturn, 1) := by decide +kernel
def site : List Cond := []
def tab : Cond := tabOf yN yB 7 (some .int) site
def P (b : Addr) (A : Cell) (d : Addr) (B : Cell) (o q len : Nat) (args : Array Value) (s : State) : Prop := args = #[.ref b, .int (Int32.ofNat o), .ref d, .int (Int32.ofNat q), .int (Int32.ofNat len)] ∧ Ch b A s ∧ Arr .byte d B s ∧ b ≠ d ∧ o + len ≤ A.slots.size ∧ q + len ≤ B.slots.size ∧ ∀ i, i < len → ¬ 255 < cv A (o + i)
def E (b : Addr) (A : Cell) (d : Addr) (B : Cell) (o q len : Nat) (r : Option Value) (s u : State) : Prop := r = some (.int (Int32.ofNat len)) ∧ ∃ B', Put d B' s u ∧ Laid B B' q (q + len) (fun j => Value.int (lo8 (cv A (o + (j - q)))))
/-- no char of the range above 255: len; the places written hold each char's low byte -/
theorem law (l : Launch) (b : Addr) (A : Cell) (d : Addr) (B : Cell) (o q len : Nat) : Law l yN 5 5 0 0 yB 7 (some .int) site (P b A d B o q len) (E b A d B o q len) (copyLocs d q len) 0 0 := by
  refine Law.of_walk (plainFor_of_name (by decide +kernel)) (by decide +kernel) (by decide +kernel) (by decide) (fun _ _ h => by rw [h.1]; rfl) (fun _ U U' hal hh h => ⟨h.1, h.2.1.mv hal hh, h.2.2.1.mv hal hh, h.2.2.2⟩) (fun r U U' V V' h1 hal h2 h => ⟨h.1, h.2.elim fun B' q => ⟨B', q.1.mv h1 h2, q.2⟩⟩) ?_
  intro p e s m args below meth c s₁ X0 hexec hbytes hml hret hlk hnm hown hh0 W hP
  obtain ⟨rfl, hA, hB, hne, l1, l2, hp⟩ := hP
  have c1 : Steps p.tables e below (s₁.setTop (entryFrame m #[.ref b, .int (Int32.ofNat o), .ref d, .int (Int32.ofNat q), .int (Int32.ofNat len)] 7)) (s₁.setTop (mkF m 0 #[.val (.ref b), .val (.int (Int32.ofNat o)), .val (.ref d), .val (.int (Int32.ofNat q)), .val (.int (Int32.ofNat len)), .unset, .unset] [])) := entry rfl
  have hA0 := hA.1.mv X0.warmed.alike hh0
  have hB0 := hB.mv X0.warmed.alike hh0
  have a31 := hA.1.2.2.2
  have c2 : Steps p.tables e below (s₁.setTop (entryFrame m #[.ref b, .int (Int32.ofNat o), .ref d, .int (Int32.ofNat q), .int (Int32.ofNat len)] 7)) (s₁.setTop (mkF m 3 #[.val (.ref b), .val (.int (Int32.ofNat o)), .val (.ref d), .val (.int (Int32.ofNat q)), .val (.int (Int32.ofNat len)), .val (.int 0), .unset] [])) := c1.trans (by
    refine iconstV X0.here hexec rfl 0 (hb hbytes d0) (by decide) ?_
    refine XS.istore X0.here hexec rfl (hb hbytes d1) rfl rfl ?_
    exact Steps.refl _)
  have loop : ∀ (r i : Nat), i + r = len → ∀ (z : Slot), (z = .unset ∨ ∃ w, z = .val w ∧ w.category = 1) → ∀ (Tl : State) (Bk : Cell), Stand p l e { frames := 0, locals := 0, cells := 0, slots := 0 } s m #[.ref b, .int (Int32.ofNat o), .ref d, .int (Int32.ofNat q), .int (Int32.ofNat len)] below meth c Tl ([] ++ copyLocs d q i) 0 0 → Put d Bk s₁ Tl → Laid B Bk q (q + i) (fun j => Value.int (lo8 (cv A (o + (j - q))))) →
      Steps p.tables e below (s₁.setTop (entryFrame m #[.ref b, .int (Int32.ofNat o), .ref d, .int (Int32.ofNat q), .int (Int32.ofNat len)] 7)) (Tl.setTop (mkF m 3 #[.val (.ref b), .val (.int (Int32.ofNat (o + i))), .val (.ref d), .val (.int (Int32.ofNat (q + i))), .val (.int (Int32.ofNat len)), .val (.int (Int32.ofNat i)), z] [])) → ∃ (T' : State) (B' : Cell) (z' : Slot), Stand p l e { frames := 0, locals := 0, cells := 0, slots := 0 } s m #[.ref b, .int (Int32.ofNat o), .ref d, .int (Int32.ofNat q), .int (Int32.ofNat len)] below meth c T' ([] ++ copyLocs d q len) 0 0 ∧ Put d B' s₁ T' ∧ Laid B B' q (q + len) (fun j => Value.int (lo8 (cv A (o + (j - q))))) ∧
      Steps p.tables e below (s₁.setTop (entryFrame m #[.ref b, .int (Int32.ofNat o), .ref d, .int (Int32.ofNat q), .int (Int32.ofNat len)] 7)) (T'.setTop (mkF m 3 #[.val (.ref b), .val (.int (Int32.ofNat (o + len))), .val (.ref d), .val (.int (Int32.ofNat (q + len))), .val (.int (Int32.ofNat len)), .val (.int (Int32.ofNat len)), z'] [])) := by
    intro r
    induction r with
    | zero =>
      intro i hi z hz Tl Bk Xl pl fl cl
      have hil : i = len := by omega
      rw [hil] at Xl fl cl
      exact ⟨Tl, Bk, z, Xl, pl, fl, cl⟩
    | succ r ih =>
      intro i hi z hz Tl Bk Xl pl fl cl
      have all := X0.warmed.alike.symm.trans Xl.warmed.alike
      have hAl := hA0.keep all (pl.other hne hA0.1)
      have hBk := hB0.like all pl.1 fl.1 fl.2.1 fl.2.2.1
      have hlt : q + i < Bk.slots.size := by rw [fl.2.2.1]; omega
      have c3 : Steps p.tables e below (s₁.setTop (entryFrame m #[.ref b, .int (Int32.ofNat o), .ref d, .int (Int32.ofNat q), .int (Int32.ofNat len)] 7)) (Tl.setTop (mkF m 12 #[.val (.ref b), .val (.int (Int32.ofNat (o + i))), .val (.ref d), .val (.int (Int32.ofNat (q + i))), .val (.int (Int32.ofNat len)), .val (.int (Int32.ofNat i)), z] [.int (Int32.ofNat (o + i)), .ref b])) := cl.trans (by
        refine XS.iload Xl.here hexec rfl (hb hbytes d3) rfl ?_
        refine XS.iload Xl.here hexec rfl (hb hbytes d5) rfl ?_
        refine XS.icmpNo Xl.here hexec rfl (hb hbytes d7) rfl (ii_ge_f (lt32 (by omega) (by omega))) ?_
        refine XS.aloadN Xl.here hexec rfl (hb hbytes d10) rfl rfl ?_
        refine XS.iloadN Xl.here hexec rfl (hb hbytes d11) rfl ?_
        exact Steps.refl _)
      have c4 : Steps p.tables e below (s₁.setTop (entryFrame m #[.ref b, .int (Int32.ofNat o), .ref d, .int (Int32.ofNat q), .int (Int32.ofNat len)] 7)) (Tl.setTop (mkF m 13 #[.val (.ref b), .val (.int (Int32.ofNat (o + i))), .val (.ref d), .val (.int (Int32.ofNat (q + i))), .val (.int (Int32.ofNat len)), .val (.int (Int32.ofNat i)), z] [.int (cv A (o + i))])) := c3.trans (by
        refine Xl.aget hexec hAl rfl (hA.get (i := o + i) (by omega)) rfl rfl (hb hbytes d12) ?_
        exact Steps.refl _)
      have c5 : Steps p.tables e below (s₁.setTop (entryFrame m #[.ref b, .int (Int32.ofNat o), .ref d, .int (Int32.ofNat q), .int (Int32.ofNat len)] 7)) (Tl.setTop (mkF m 15 #[.val (.ref b), .val (.int (Int32.ofNat (o + i))), .val (.ref d), .val (.int (Int32.ofNat (q + i))), .val (.int (Int32.ofNat len)), .val (.int (Int32.ofNat i)), .val (.int (cv A (o + i)))] [])) := c4.trans (by
        refine XS.istoreS Xl.here hexec rfl (hb hbytes d13) rfl rfl hz ?_
        exact Steps.refl _)
      have c6 : Steps p.tables e below (s₁.setTop (entryFrame m #[.ref b, .int (Int32.ofNat o), .ref d, .int (Int32.ofNat q), .int (Int32.ofNat len)] 7)) (Tl.setTop (mkF m 31 #[.val (.ref b), .val (.int (Int32.ofNat (o + i))), .val (.ref d), .val (.int (Int32.ofNat (q + i))), .val (.int (Int32.ofNat len)), .val (.int (Int32.ofNat i)), .val (.int (cv A (o + i)))] [.int (lo8 (cv A (o + i))), .int (Int32.ofNat (q + i)), .ref d])) := c5.trans (by
        refine XS.iload Xl.here hexec rfl (hb hbytes d15) rfl ?_
        refine sipushV Xl.here hexec rfl 255 (hb hbytes d17) (by decide) ?_
        refine XS.icmpYes Xl.here hexec rfl (pc0 := 20) rfl (hb hbytes d20) rfl (ii_le_t (hp i (by omega))) (by decide) rfl ?_
        refine XS.aloadN Xl.here hexec rfl (hb hbytes d26) rfl rfl ?_
        refine XS.iloadN Xl.here hexec rfl (hb hbytes d27) rfl ?_
        refine XS.iload Xl.here hexec rfl (hb hbytes d28) rfl ?_
        refine i2b Xl.here hexec rfl (hb hbytes d30) rfl ?_
        exact Steps.refl _)
      obtain ⟨T7, X7, p7, st7⟩ := Xl.aput hexec hBk rfl hlt rfl (fits_lo8 (cv A (o + i))) (g := (mkF m 31 #[.val (.ref b), .val (.int (Int32.ofNat (o + i))), .val (.ref d), .val (.int (Int32.ofNat (q + i))), .val (.int (Int32.ofNat len)), .val (.int (Int32.ofNat i)), .val (.int (cv A (o + i)))] [.int (lo8 (cv A (o + i))), .int (Int32.ofNat (q + i)), .ref d])) rfl (rest := []) rfl (hb hbytes d31)
      have c8 : Steps p.tables e below (s₁.setTop (entryFrame m #[.ref b, .int (Int32.ofNat o), .ref d, .int (Int32.ofNat q), .int (Int32.ofNat len)] 7)) (T7.setTop (mkF m 32 #[.val (.ref b), .val (.int (Int32.ofNat (o + i))), .val (.ref d), .val (.int (Int32.ofNat (q + i))), .val (.int (Int32.ofNat len)), .val (.int (Int32.ofNat i)), .val (.int (cv A (o + i)))] [])) := c6.trans (st7 _ (Steps.refl _))
      have c9 : Steps p.tables e below (s₁.setTop (entryFrame m #[.ref b, .int (Int32.ofNat o), .ref d, .int (Int32.ofNat q), .int (Int32.ofNat len)] 7)) (T7.setTop (mkF m 3 #[.val (.ref b), .val (.int (Int32.ofNat (o + i) + 1)), .val (.ref d), .val (.int (Int32.ofNat (q + i) + 1)), .val (.int (Int32.ofNat len)), .val (.int (Int32.ofNat i + 1)), .val (.int (cv A (o + i)))] [])) := c8.trans (by
        refine iincV X7.here hexec rfl 1 (hb hbytes d32) (by decide) rfl rfl ?_
        refine iincV X7.here hexec rfl 1 (hb hbytes d35) (by decide) rfl rfl ?_
        refine iincV X7.here hexec rfl 1 (hb hbytes d38) (by decide) rfl rfl ?_
        refine XS.goto X7.here hexec rfl (pc0 := 41) rfl (hb hbytes d41) (by decide) rfl ?_
        exact Steps.refl _)
      have c10 : Steps p.tables e below (s₁.setTop (entryFrame m #[.ref b, .int (Int32.ofNat o), .ref d, .int (Int32.ofNat q), .int (Int32.ofNat len)] 7)) (T7.setTop (mkF m 3 #[.val (.ref b), .val (.int (Int32.ofNat (o + (i + 1)))), .val (.ref d), .val (.int (Int32.ofNat (q + (i + 1)))), .val (.int (Int32.ofNat len)), .val (.int (Int32.ofNat (i + 1))), .val (.int (cv A (o + i)))] [])) := by
        have := c9
        rw [succ32, succ32, succ32] at this
        exact this
      exact ih (i + 1) (by omega) _ (Or.inr ⟨_, rfl, rfl⟩) T7 _ (by rw [copyLocs_step, ← List.append_assoc]; exact X7) (pl.trans p7) (fl.step (by omega) hlt (by simp)) c10
  obtain ⟨T9, B9, z9, X9, p9, f9, g9⟩ := loop len 0 (by omega) .unset (Or.inl rfl) s₁ B (by simpa [copyLocs] using X0) ⟨hB0.1, fun _ _ => rfl, rfl⟩ (Laid.zero _ _ _) c2
  have c11 : Steps p.tables e below (s₁.setTop (entryFrame m #[.ref b, .int (Int32.ofNat o), .ref d, .int (Int32.ofNat q), .int (Int32.ofNat len)] 7)) (T9.setTop (mkF m 46 #[.val (.ref b), .val (.int (Int32.ofNat (o + len))), .val (.ref d), .val (.int (Int32.ofNat (q + len))), .val (.int (Int32.ofNat len)), .val (.int (Int32.ofNat len)), z9] [.int (Int32.ofNat len)])) := g9.trans (by
    refine XS.iload X9.here hexec rfl (hb hbytes d3) rfl ?_
    refine XS.iload X9.here hexec rfl (hb hbytes d5) rfl ?_
    refine XS.icmpYes X9.here hexec rfl (pc0 := 7) rfl (hb hbytes d7) rfl (ii_ge_t (nlt32 (by omega) (Nat.le_refl _))) (by decide) rfl ?_
    refine XS.iload X9.here hexec rfl (hb hbytes d44) rfl ?_
    exact Steps.refl _)
  exact ⟨T9, some (.int (Int32.ofNat len)), _, _, _, X9, by simp, rfl, rfl, (fun h => by cases h), ⟨rfl, B9, p9.from hh0, f9⟩, fun fs hl => c11.trans (X9.ireturnOut hexec hret rfl (Or.inl rfl) (hb hbytes d46) hl)⟩
end Cmp5
namespace Cmp3
def yN : MethodName := ⟨"java/lang/StringUTF16", "compress", "([CII)[B"⟩
abbrev yB : ByteArray := jdk_52_method_16_code
theorem d0 : decode yB 0 = .ok (.iload_n 2, 1) := by decide +kernel
theorem d1 : decode yB 1 = .ok (.newarray .byte, 2) := by decide +kernel
theorem d3 : decode yB 3 = .ok (.astore_n 3, 1) := by decide +kernel
theorem d4 : decode yB 4 = .ok (.aload_n 0, 1) := by decide +kernel
theorem d5 : decode yB 5 = .ok (.iload_n 1, 1) := by decide +kernel
theorem d6 : decode yB 6 = .ok (.aload_n 3, 1) := by decide +kernel
theorem d7 : decode yB 7 = .ok (.iconst 0, 1) := by decide +kernel
theorem d8 : decode yB 8 = .ok (.iload_n 2, 1) := by decide +kernel
theorem d9 : decode yB 9 = .ok (.invokestatic 115, 3) := by decide +kernel
theorem d12 : decode yB 12 = .ok (.istore 4, 2) := by decide +kernel
theorem d14 : decode yB 14 = .ok (.iload 4, 2) := by decide +kernel
theorem d16 : decode yB 16 = .ok (.iload_n 2, 1) := by decide +kernel
theorem d17 : decode yB 17 = .ok (.if_icmp (.eq) 40, 3) := by decide +kernel
theorem d57 : decode yB 57 = .ok (.aload_n 3, 1) := by decide +kernel
theorem d58 : decode yB 58 = .ok (.areturn, 1) := by decide +kernel
def site : List Cond := [.arrayClass .byte, Cmp5.tab] ++ staticW U16 115 Cmp5.yN
def tab : Cond := tabOf yN yB 6 (some (.array .byte)) site
def P (b : Addr) (A : Cell) (o len : Nat) (args : Array Value) (s : State) : Prop := args = #[.ref b, .int (Int32.ofNat o), .int (Int32.ofNat len)] ∧ Ch b A s ∧ o + len ≤ A.slots.size ∧ len ≤ 536870912 ∧ ∀ i, i < len → ¬ 255 < cv A (o + i)
def E (b : Addr) (A : Cell) (o len : Nat) (r : Option Value) (s u : State) : Prop := NewArr .byte "[B" len (fun j => .int (lo8 (cv A (o + j)))) r s u ∧ u.heap.size = s.heap.size + 1
/-- no char of the range above 255: a new byte[] of their low bytes -/
theorem law (l : Launch) (b : Addr) (A : Cell) (o len : Nat) : Law l yN 3 3 1 18 yB 6 (some (.array .byte)) site (P b A o len) (E b A o len) [] 1 len := by
  refine Law.of_walk (plainFor_of_name (by decide +kernel)) (by decide +kernel) (by decide +kernel) (by decide) (fun _ _ h => by rw [h.1]; rfl) (fun _ U U' hal hh h => ⟨h.1, h.2.1.mv hal hh, h.2.2⟩) (fun r U U' V V' h1 hal h2 h => ⟨NewArr.mv r U U' V V' h1 hal h2 h.1, by rw [h1, h2]; exact h.2⟩) ?_
  intro p e s m args below meth c s₁ X0 hexec hbytes hml hret hlk hnm hown hh0 W hP
  obtain ⟨rfl, hA, l1, l2, hp⟩ := hP
  have a31 := hA.1.2.2.2
  have c1 : Steps p.tables e below (s₁.setTop (entryFrame m #[.ref b, .int (Int32.ofNat o), .int (Int32.ofNat len)] 6)) (s₁.setTop (mkF m 0 #[.val (.ref b), .val (.int (Int32.ofNat o)), .val (.int (Int32.ofNat len)), .unset, .unset, .unset] [])) := entry rfl
  have c2 : Steps p.tables e below (s₁.setTop (entryFrame m #[.ref b, .int (Int32.ofNat o), .int (Int32.ofNat len)] 6)) (s₁.setTop (mkF m 1 #[.val (.ref b), .val (.int (Int32.ofNat o)), .val (.int (Int32.ofNat len)), .unset, .unset, .unset] [.int (Int32.ofNat len)])) := c1.trans (by
    refine XS.iloadN X0.here hexec rfl (hb hbytes d0) rfl ?_
    exact Steps.refl _)
  obtain ⟨T3, B3, X3, ba3, bs3, bv3, bh3, bf3, st3⟩ := X0.anew hexec (atype := .byte) (wk W (.arrayClass .byte)) rfl (by show len * 1 ≤ _; omega) (by omega) (g := (mkF m 1 #[.val (.ref b), .val (.int (Int32.ofNat o)), .val (.int (Int32.ofNat len)), .unset, .unset, .unset] [.int (Int32.ofNat len)])) rfl (hb hbytes d1) (rest := []) rfl (Nat.le_refl _) (by show 0 + len ≤ len; omega)
  rw [hh0] at ba3 st3
  have kp3 : XT.Kept s T3 := (XT.Kept.of_eq hh0).push bh3
  have hA3 := hA.keep X3.warmed.alike (kp3 _ _ hA.1.1)
  have hne : b ≠ s.heap.size := hA.1.ne
  have c4 : Steps p.tables e below (s₁.setTop (entryFrame m #[.ref b, .int (Int32.ofNat o), .int (Int32.ofNat len)] 6)) (T3.setTop (mkF m 3 #[.val (.ref b), .val (.int (Int32.ofNat o)), .val (.int (Int32.ofNat len)), .unset, .unset, .unset] [.ref s.heap.size])) := c2.trans (st3 _ (Steps.refl _))
  have c5 : Steps p.tables e below (s₁.setTop (entryFrame m #[.ref b, .int (Int32.ofNat o), .int (Int32.ofNat len)] 6)) (T3.setTop (mkF m 9 #[.val (.ref b), .val (.int (Int32.ofNat o)), .val (.int (Int32.ofNat len)), .val (.ref s.heap.size), .unset, .unset] [.int (Int32.ofNat len), .int 0, .ref s.heap.size, .int (Int32.ofNat o), .ref b])) := c4.trans (by
    refine XS.astoreN X3.here hexec rfl (hb hbytes d3) rfl rfl rfl ?_
    refine XS.aloadN X3.here hexec rfl (hb hbytes d4) rfl rfl ?_
    refine XS.iloadN X3.here hexec rfl (hb hbytes d5) rfl ?_
    refine XS.aloadN X3.here hexec rfl (hb hbytes d6) rfl rfl ?_
    refine iconstV X3.here hexec rfl 0 (hb hbytes d7) (by decide) ?_
    refine XS.iloadN X3.here hexec rfl (hb hbytes d8) rfl ?_
    exact Steps.refl _)
  obtain ⟨v6, T6, X6, E6, g6⟩ := X3.callS hexec (Cmp5.law l b A s.heap.size B3 o 0 len) hown (wks W (staticW U16 115 Cmp5.yN)) (wk W Cmp5.tab) (W := 0) (Nat.le_of_ble_eq_true rfl) (Nat.le_of_ble_eq_true rfl) (Nat.le_refl _) (by show 0 + len + 0 ≤ len; omega) (g := (mkF m 9 #[.val (.ref b), .val (.int (Int32.ofNat o)), .val (.int (Int32.ofNat len)), .val (.ref s.heap.size), .unset, .unset] [.int (Int32.ofNat len), .int (Int32.ofNat 0), .ref s.heap.size, .int (Int32.ofNat o), .ref b])) rfl (by rw [hml]; rfl) c5 (argsL := [.ref b, .int (Int32.ofNat o), .ref s.heap.size, .int (Int32.ofNat 0), .int (Int32.ofNat len)]) (rest := []) rfl rfl (by show 2 * 0 + 0 ≤ _; decide) (hb hbytes d9) (⟨rfl, hA3, ba3, hne, l1, by rw [bs3]; simp, hp⟩)
  obtain ⟨rfl, B6, p6, f6⟩ := E6
  have c7 : Steps p.tables e below (s₁.setTop (entryFrame m #[.ref b, .int (Int32.ofNat o), .int (Int32.ofNat len)] 6)) (T6.setTop (mkF m 12 #[.val (.ref b), .val (.int (Int32.ofNat o)), .val (.int (Int32.ofNat len)), .val (.ref s.heap.size), .unset, .unset] [.int (Int32.ofNat len)])) := g6
  have c8 : Steps p.tables e below (s₁.setTop (entryFrame m #[.ref b, .int (Int32.ofNat o), .int (Int32.ofNat len)] 6)) (T6.setTop (mkF m 58 #[.val (.ref b), .val (.int (Int32.ofNat o)), .val (.int (Int32.ofNat len)), .val (.ref s.heap.size), .val (.int (Int32.ofNat len)), .unset] [.ref s.heap.size])) := c7.trans (by
    refine XS.istore X6.here hexec rfl (hb hbytes d12) rfl rfl ?_
    refine XS.iload X6.here hexec rfl (hb hbytes d14) rfl ?_
    refine XS.iloadN X6.here hexec rfl (hb hbytes d16) rfl ?_
    refine XS.icmpYes X6.here hexec rfl (pc0 := 17) rfl (hb hbytes d17) rfl (ii_eq_t rfl) (by decide) rfl ?_
    refine XS.aloadN X6.here hexec rfl (hb hbytes d57) rfl rfl ?_
    exact Steps.refl _)
  have X8 := X6.wide (L' := []) (cells' := 1) (slots' := len) (fun x hx hlt => by
    simp only [List.nil_append, copyLocs, List.mem_map, List.mem_range] at hx
    obtain ⟨i, -, rfl⟩ := hx
    exact absurd hlt (Nat.lt_irrefl _)) (Nat.le_refl _) (by omega)
  exact ⟨T6, some (.ref s.heap.size), _, _, _, X8, rfl, rfl, rfl, (fun h => by cases h), ⟨⟨rfl, B6, ba3.like (X3.warmed.alike.symm.trans X6.warmed.alike) p6.1 f6.1 f6.2.1 f6.2.2.1, f6.2.1.trans bv3, by rw [X6.warmed.alike.findClass, f6.1]; exact bf3, by rw [f6.2.2.1, bs3]; simp, fun j hj => by rw [f6.2.2.2 j, if_pos (by omega)]; rfl, kp3.put p6 (Nat.le_refl _)⟩, by rw [p6.2.2, bh3, hh0]; simp⟩, fun fs hl => c8.trans (X8.areturnOut hexec rfl hret rfl (hb hbytes d58) hl)⟩
end Cmp3
namespace CodL
def yN : MethodName := ⟨"java/lang/StringUTF16", "coderFromArrayLen", "([BI)B"⟩
abbrev yB : ByteArray := jdk_52_method_15_code
theorem d0 : decode yB 0 = .ok (.iload_n 1, 1) := by decide +kernel
theorem d1 : decode yB 1 = .ok (.aload_n 0, 1) := by decide +kernel
theorem d2 : decode yB 2 = .ok (.arraylength, 1) := by decide +kernel
theorem d3 : decode yB 3 = .ok (.isub, 1) := by decide +kernel
theorem d4 : decode yB 4 = .ok (.bipush 31, 2) := by decide +kernel
theorem d6 : decode yB 6 = .ok (.iushr, 1) := by decide +kernel
theorem d7 : decode yB 7 = .ok (.i2b, 1) := by decide +kernel
theorem d8 : decode yB 8 = .ok (.ireturn, 1) := by decide +kernel
def site : List Cond := []
def tab : Cond := tabOf yN yB 2 (some .byte) site
def P (d : Addr) (B : Cell) (args : Array Value) (s : State) : Prop := args = #[.ref d, .int (Int32.ofNat B.slots.size)] ∧ Arr .byte d B s
def E (r : Option Value) (s u : State) : Prop := XT.PureE (some (.int 0)) r s u
/-- an array as long as the number of chars: LATIN1 -/
theorem law (l : Launch) (d : Addr) (B : Cell) : Law l yN 2 2 0 0 yB 2 (some .byte) site (P d B) E [] 0 0 := by
  refine Law.of_walk (plainFor_of_name (by decide +kernel)) (by decide +kernel) (by decide +kernel) (by decide) (fun _ _ h => by rw [h.1]; rfl) (fun _ U U' hal hh h => ⟨h.1, h.2.mv hal hh⟩) (fun r U U' V V' h1 hal h2 h => XT.PureE.mv r U U' V V' h1 hal h2 h) ?_
  intro p e s m args below meth c s₁ X0 hexec hbytes hml hret hlk hnm hown hh0 W hP
  obtain ⟨rfl, hB⟩ := hP
  have hB0 := hB.mv X0.warmed.alike hh0
  have c1 : Steps p.tables e below (s₁.setTop (entryFrame m #[.ref d, .int (Int32.ofNat B.slots.size)] 2)) (s₁.setTop (mkF m 0 #[.val (.ref d), .val (.int (Int32.ofNat B.slots.size))] [])) := entry rfl
  have c2 : Steps p.tables e below (s₁.setTop (entryFrame m #[.ref d, .int (Int32.ofNat B.slots.size)] 2)) (s₁.setTop (mkF m 2 #[.val (.ref d), .val (.int (Int32.ofNat B.slots.size))] [.ref d, .int (Int32.ofNat B.slots.size)])) := c1.trans (by
    refine XS.iloadN X0.here hexec rfl (hb hbytes d0) rfl ?_
    refine XS.aloadN X0.here hexec rfl (hb hbytes d1) rfl rfl ?_
    exact Steps.refl _)
  have c3 : Steps p.tables e below (s₁.setTop (entryFrame m #[.ref d, .int (Int32.ofNat B.slots.size)] 2)) (s₁.setTop (mkF m 8 #[.val (.ref d), .val (.int (Int32.ofNat B.slots.size))] [.int (lo8 (ushr (Int32.ofNat B.slots.size - Int32.ofNat B.slots.size) 31))])) := c2.trans (by
    refine X0.alen hexec hB0 rfl rfl (hb hbytes d2) ?_
    refine XS.isub X0.here hexec rfl (hb hbytes d3) rfl ?_
    refine bipushV X0.here hexec rfl 31 (hb hbytes d4) (by decide) ?_
    refine iushr X0.here hexec rfl (hb hbytes d6) rfl ?_
    refine i2b X0.here hexec rfl (hb hbytes d7) rfl ?_
    exact Steps.refl _)
  have e0 : lo8 (ushr (Int32.ofNat B.slots.size - Int32.ofNat B.slots.size) 31) = 0 := by rw [Int32.sub_self]; decide
  rw [e0] at c3
  exact ⟨s₁, some (.int 0), _, _, _, X0, rfl, rfl, rfl, (fun h => by cases h), ⟨rfl, hh0⟩, fun fs hl => c3.trans (X0.ireturnOut hexec hret rfl (Or.inr (Or.inr (Or.inl rfl))) (hb hbytes d8) hl)⟩
end CodL
/-- the String at a is Latin-1 over a new byte[] (the heap's one new cell): the low bytes of the len chars of A from o on; every cell but a is kept -/
def Got (a : Addr) (D : Cell) (fV fC : Field) (A : Cell) (o len : Nat) (r : Option Value) (s u : State) : Prop := r = none ∧ ∃ D' V : Cell, Blank "java/lang/String" a D' u ∧ Same D D' [fV.slot, fC.slot] ∧ D'.slots[fV.slot]? = some (.ref s.heap.size) ∧ D'.slots[fC.slot]? = some (.int 0) ∧ Arr .byte s.heap.size V u ∧ V.vm = .none ∧ u.vm.findClass "[B" = some V.cls ∧ V.slots.size = len ∧ (∀ j, j < len → V.slots[j]? = some (.int (lo8 (cv A (o + j))))) ∧ (∀ (y : Addr) (c : Cell), y ≠ a → s.heap[y]? = some c → u.heap[y]? = some c) ∧ u.heap.size = s.heap.size + 1
theorem Got.mv {a : Addr} {D A : Cell} {fV fC : Field} {o len : Nat} : ∀ r (U U' V V' : State), U'.heap = U.heap → V.vm.Alike V'.vm → V'.heap = V.heap → Got a D fV fC A o len r U V → Got a D fV fC A o len r U' V' :=
  fun r U U' V V' h1 hal h2 ⟨e0, D', X, a1, a2, a3, a4, a5, a6, a7, a8, a9, a10, a11⟩ => ⟨e0, D', X, a1.mv hal h2, a2, by rw [h1]; exact a3, a4, by rw [h1]; exact a5.mv hal h2, a6, by rw [hal.findClass]; exact a7, a8, a9, by rw [h1, h2]; exact a10, by rw [h1, h2]; exact a11⟩
namespace New4
def yN : MethodName := ⟨"java/lang/String", "<init>", "([CIILjava/lang/Void;)V"⟩
abbrev yB : ByteArray := jdk_42_method_149_code
theorem d0 : decode yB 0 = .ok (.aload_n 0, 1) := by decide +kernel
theorem d1 : decode yB 1 = .ok (.invokespecial 1, 3) := by decide +kernel
theorem d4 : decode yB 4 = .ok (.iload_n 3, 1) := by decide +kernel
theorem d5 : decode yB 5 = .ok (.ifCond (.ne) 22, 3) := by decide +kernel
theorem d27 : decode yB 27 = .ok (.getstatic 38, 3) := by decide +kernel
theorem d30 : decode yB 30 = .ok (.ifCond (.eq) 28, 3) := by decide +kernel
theorem d33 : decode yB 33 = .ok (.aload_n 1, 1) := by decide +kernel
theorem d34 : decode yB 34 = .ok (.iload_n 2, 1) := by decide +kernel
theorem d35 : decode yB 35 = .ok (.iload_n 3, 1) := by decide +kernel
theorem d36 : decode yB 36 = .ok (.invokestatic 177, 3) := by decide +kernel
theorem d39 : decode yB 39 = .ok (.astore 5, 2) := by decide +kernel
theorem d41 : decode yB 41 = .ok (.aload_n 0, 1) := by decide +kernel
theorem d42 : decode yB 42 = .ok (.aload 5, 2) := by decide +kernel
theorem d44 : decode yB 44 = .ok (.iload_n 3, 1) := by decide +kernel
theorem d45 : decode yB 45 = .ok (.invokestatic 47, 3) := by decide +kernel
theorem d48 : decode yB 48 = .ok (.putfield 15, 3) := by decide +kernel
theorem d51 : decode yB 51 = .ok (.aload_n 0, 1) := by decide +kernel
theorem d52 : decode yB 52 = .ok (.aload 5, 2) := by decide +kernel
theorem d54 : decode yB 54 = .ok (.putfield 9, 3) := by decide +kernel
theorem d57 : decode yB 57 = .ok (.return_, 1) := by decide +kernel
def site : List Cond := [.fieldLink "java/lang/String" 38 "java/lang/String" "COMPACT_STRINGS" "Z", Cmp3.tab, CodL.tab, .laysFinal "java/lang/String" "java/lang/String" "value" "[B", .fieldLink "java/lang/String" 9 "java/lang/String" "value" "[B", .laysFinal "java/lang/String" "java/lang/String" "coder" "B", .fieldLink "java/lang/String" 15 "java/lang/String" "coder" "B"] ++ objW "java/lang/String" 1 ++ staticW "java/lang/String" 177 Cmp3.yN ++ staticW "java/lang/String" 47 CodL.yN
def tab : Cond := tabOf yN yB 6 none site
def P (a : Addr) (D : Cell) (fV fC : Field) (b : Addr) (A : Cell) (z : Int32) (o len : Nat) (args : Array Value) (s : State) : Prop := args = #[.ref a, .ref b, .int (Int32.ofNat o), .int (Int32.ofNat len), .null] ∧ Blank "java/lang/String" a D s ∧ Found "java/lang/String" "value" "[B" fV s ∧ Found "java/lang/String" "coder" "B" fC s ∧ Ch b A s ∧ StaticIs s "java/lang/String" "COMPACT_STRINGS" "Z" (.int z) ∧ ¬ z = 0 ∧ 0 < len ∧ o + len ≤ A.slots.size ∧ len ≤ 536870912 ∧ ∀ i, i < len → ¬ 255 < cv A (o + i)
def E (a : Addr) (D : Cell) (fV fC : Field) (A : Cell) (o len : Nat) (r : Option Value) (s u : State) : Prop := Got a D fV fC A o len r s u
/-- len > 0, no char of the range above 255: a Latin-1 String of their low bytes -/
theorem law (l : Launch) (a : Addr) (D : Cell) (fV fC : Field) (b : Addr) (A : Cell) (z : Int32) (o len : Nat) : Law l yN 5 4 2 35 yB 6 none site (P a D fV fC b A z o len) (E a D fV fC A o len) [⟨a, fC.slot⟩, ⟨a, fV.slot⟩] 1 len := by
  refine Law.of_walk (plainFor_of_name (by decide +kernel)) (by decide +kernel) (by decide +kernel) (by decide) (fun _ _ h => by rw [h.1]; rfl) (fun _ U U' hal hh h => ⟨h.1, h.2.1.mv hal hh, h.2.2.1.al hal, h.2.2.2.1.al hal, h.2.2.2.2.1.mv hal hh, h.2.2.2.2.2.1.there hal hh, h.2.2.2.2.2.2⟩) (fun r U U' V V' h1 hal h2 h => Got.mv r U U' V V' h1 hal h2 h) ?_
  intro p e s m args below meth c s₁ X0 hexec hbytes hml hret hlk hnm hown hh0 W hP
  obtain ⟨rfl, hB, f1, f2, hA, s1, hz, l0, l1, l2, hp⟩ := hP
  have a31 := hA.1.2.2.2
  have c1 : Steps p.tables e below (s₁.setTop (entryFrame m #[.ref a, .ref b, .int (Int32.ofNat o), .int (Int32.ofNat len), .null] 6)) (s₁.setTop (mkF m 0 #[.val (.ref a), .val (.ref b), .val (.int (Int32.ofNat o)), .val (.int (Int32.ofNat len)), .val .null, .unset] [])) := entry rfl
  have c2 : Steps p.tables e below (s₁.setTop (entryFrame m #[.ref a, .ref b, .int (Int32.ofNat o), .int (Int32.ofNat len), .null] 6)) (s₁.setTop (mkF m 1 #[.val (.ref a), .val (.ref b), .val (.int (Int32.ofNat o)), .val (.int (Int32.ofNat len)), .val .null, .unset] [.ref a])) := c1.trans (by
    refine XS.aloadN X0.here hexec rfl (hb hbytes d0) rfl rfl ?_
    exact Steps.refl _)
  obtain ⟨T3, X3, q3, st3⟩ := X0.oinit hexec hown (wks W (objW "java/lang/String" 1)) (g := (mkF m 1 #[.val (.ref a), .val (.ref b), .val (.int (Int32.ofNat o)), .val (.int (Int32.ofNat len)), .val .null, .unset] [.ref a])) rfl (by rw [hml]; rfl) (rest := []) rfl (hb hbytes d1) (W := 0) (by show 2 * 0 + 0 ≤ _; decide) (Nat.le_of_ble_eq_true rfl) (Nat.le_of_ble_eq_true rfl)
  have hh3 := q3.trans hh0
  have c4 : Steps p.tables e below (s₁.setTop (entryFrame m #[.ref a, .ref b, .int (Int32.ofNat o), .int (Int32.ofNat len), .null] 6)) (T3.setTop (mkF m 27 #[.val (.ref a), .val (.ref b), .val (.int (Int32.ofNat o)), .val (.int (Int32.ofNat len)), .val .null, .unset] [])) := (c2.trans (st3 _ (Steps.refl _))).trans (by
    refine XS.iloadN X3.here hexec rfl (hb hbytes d4) rfl ?_
    refine XS.ifYes X3.here hexec rfl (pc0 := 5) rfl (hb hbytes d5) rfl (i0_ne_t (nz32 (by omega) l0)) (by decide) rfl ?_
    exact Steps.refl _)
  obtain ⟨T5, X5, q5, st5⟩ := X3.sget hexec hown (wk W (.fieldLink "java/lang/String" 38 "java/lang/String" "COMPACT_STRINGS" "Z")) s1 (fun _ _ h => by rw [hh3]; exact h) (g := (mkF m 27 #[.val (.ref a), .val (.ref b), .val (.int (Int32.ofNat o)), .val (.int (Int32.ofNat len)), .val .null, .unset] [])) rfl (hb hbytes d27)
  have hh5 := q5.trans hh3
  have c6 : Steps p.tables e below (s₁.setTop (entryFrame m #[.ref a, .ref b, .int (Int32.ofNat o), .int (Int32.ofNat len), .null] 6)) (T5.setTop (mkF m 30 #[.val (.ref a), .val (.ref b), .val (.int (Int32.ofNat o)), .val (.int (Int32.ofNat len)), .val .null, .unset] [.int z])) := c4.trans (st5 _ (Steps.refl _))
  have c7 : Steps p.tables e below (s₁.setTop (entryFrame m #[.ref a, .ref b, .int (Int32.ofNat o), .int (Int32.ofNat len), .null] 6)) (T5.setTop (mkF m 36 #[.val (.ref a), .val (.ref b), .val (.int (Int32.ofNat o)), .val (.int (Int32.ofNat len)), .val .null, .unset] [.int (Int32.ofNat len), .int (Int32.ofNat o), .ref b])) := c6.trans (by
    refine XS.ifNo X5.here hexec rfl (hb hbytes d30) rfl (i0_eq_f hz) ?_
    refine XS.aloadN X5.here hexec rfl (hb hbytes d33) rfl rfl ?_
    refine XS.iloadN X5.here hexec rfl (hb hbytes d34) rfl ?_
    refine XS.iloadN X5.here hexec rfl (hb hbytes d35) rfl ?_
    exact Steps.refl _)
  obtain ⟨v8, T8, X8, E8, g8⟩ := X5.callS hexec (Cmp3.law l b A o len) hown (wks W (staticW "java/lang/String" 177 Cmp3.yN)) (wk W Cmp3.tab) (W := 0) (Nat.le_of_ble_eq_true rfl) (Nat.le_of_ble_eq_true rfl) (Nat.le_refl _) (by show 0 + len ≤ len; omega) (g := (mkF m 36 #[.val (.ref a), .val (.ref b), .val (.int (Int32.ofNat o)), .val (.int (Int32.ofNat len)), .val .null, .unset] [.int (Int32.ofNat len), .int (Int32.ofNat o), .ref b])) rfl (by rw [hml]; rfl) c7 (argsL := [.ref b, .int (Int32.ofNat o), .int (Int32.ofNat len)]) (rest := []) rfl rfl (by show 2 * 0 + 0 ≤ _; decide) (hb hbytes d36) (⟨rfl, hA.mv X5.warmed.alike hh5, l1, l2, hp⟩)
  obtain ⟨e8, z8⟩ := E8
  obtain ⟨rfl, N, n1, n2, n3, n4, n5, n6⟩ := NewArr.mv _ T5 s _ _ hh5.symm (Vm.Alike.refl _) rfl e8
  rw [hh5] at z8
  have hB1 := hB.keep X8.warmed.alike (n6 _ _ hB.1)
  have hne : s.heap.size ≠ a := (Nat.ne_of_lt (Array.getElem?_eq_some_iff.mp hB.1).1).symm
  have c9 : Steps p.tables e below (s₁.setTop (entryFrame m #[.ref a, .ref b, .int (Int32.ofNat o), .int (Int32.ofNat len), .null] 6)) (T8.setTop (mkF m 39 #[.val (.ref a), .val (.ref b), .val (.int (Int32.ofNat o)), .val (.int (Int32.ofNat len)), .val .null, .unset] [.ref s.heap.size])) := g8
  have c10 : Steps p.tables e below (s₁.setTop (entryFrame m #[.ref a, .ref b, .int (Int32.ofNat o), .int (Int32.ofNat len), .null] 6)) (T8.setTop (mkF m 45 #[.val (.ref a), .val (.ref b), .val (.int (Int32.ofNat o)), .val (.int (Int32.ofNat len)), .val .null, .val (.ref s.heap.size)] [.int (Int32.ofNat N.slots.size), .ref s.heap.size, .ref a])) := by
    have hc : Steps p.tables e below (s₁.setTop (entryFrame m #[.ref a, .ref b, .int (Int32.ofNat o), .int (Int32.ofNat len), .null] 6)) (T8.setTop (mkF m 45 #[.val (.ref a), .val (.ref b), .val (.int (Int32.ofNat o)), .val (.int (Int32.ofNat len)), .val .null, .val (.ref s.heap.size)] [.int (Int32.ofNat len), .ref s.heap.size, .ref a])) := c9.trans (by
      refine XS.astore X8.here hexec rfl (hb hbytes d39) rfl rfl rfl ?_
      refine XS.aloadN X8.here hexec rfl (hb hbytes d41) rfl rfl ?_
      refine XS.aload X8.here hexec rfl (hb hbytes d42) rfl rfl ?_
      refine XS.iloadN X8.here hexec rfl (hb hbytes d44) rfl ?_
      exact Steps.refl _)
    rw [n4]; exact hc
  obtain ⟨v11, T11, X11, E11, g11⟩ := X8.callS hexec (CodL.law l s.heap.size N) hown (wks W (staticW "java/lang/String" 47 CodL.yN)) (wk W CodL.tab) (W := 1) (Nat.le_of_ble_eq_true rfl) (Nat.le_of_ble_eq_true rfl) (Nat.le_refl _) (by show 0 + len + 0 ≤ len; omega) (g := (mkF m 45 #[.val (.ref a), .val (.ref b), .val (.int (Int32.ofNat o)), .val (.int (Int32.ofNat len)), .val .null, .val (.ref s.heap.size)] [.int (Int32.ofNat N.slots.size), .ref s.heap.size, .ref a])) rfl (by rw [hml]; rfl) c10 (argsL := [.ref s.heap.size, .int (Int32.ofNat N.slots.size)]) (rest := [.ref a]) rfl rfl (by show 2 * 0 + (1 + 0) ≤ _; decide) (hb hbytes d45) (⟨rfl, n1⟩)
  obtain ⟨rfl, q11⟩ := E11
  have hB11 := hB1.mv (X8.warmed.alike.symm.trans X11.warmed.alike) q11
  have c12 : Steps p.tables e below (s₁.setTop (entryFrame m #[.ref a, .ref b, .int (Int32.ofNat o), .int (Int32.ofNat len), .null] 6)) (T11.setTop (mkF m 48 #[.val (.ref a), .val (.ref b), .val (.int (Int32.ofNat o)), .val (.int (Int32.ofNat len)), .val .null, .val (.ref s.heap.size)] [.int 0, .ref a])) := g11
  obtain ⟨T13, X13, p13, bl13, sl13, st13⟩ := X11.finit hexec hown (wk W (.fieldLink "java/lang/String" 15 "java/lang/String" "coder" "B")) (Or.inr ⟨_, (wk W (.laysFinal "java/lang/String" "java/lang/String" "coder" "B"))⟩) (Or.inl ⟨rfl, hnm⟩) f2 (Or.inl rfl) hB11 (t := .byte) (by decide +kernel) rfl (g := (mkF m 48 #[.val (.ref a), .val (.ref b), .val (.int (Int32.ofNat o)), .val (.int (Int32.ofNat len)), .val .null, .val (.ref s.heap.size)] [.int 0, .ref a])) rfl (rest := []) rfl (hb hbytes d48)
  have c14 : Steps p.tables e below (s₁.setTop (entryFrame m #[.ref a, .ref b, .int (Int32.ofNat o), .int (Int32.ofNat len), .null] 6)) (T13.setTop (mkF m 54 #[.val (.ref a), .val (.ref b), .val (.int (Int32.ofNat o)), .val (.int (Int32.ofNat len)), .val .null, .val (.ref s.heap.size)] [.ref s.heap.size, .ref a])) := (c12.trans (st13 _ (Steps.refl _))).trans (by
    refine XS.aloadN X13.here hexec rfl (hb hbytes d51) rfl rfl ?_
    refine XS.aload X13.here hexec rfl (hb hbytes d52) rfl rfl ?_
    exact Steps.refl _)
  obtain ⟨T15, X15, p15, bl15, sl15, st15⟩ := X13.finit hexec hown (wk W (.fieldLink "java/lang/String" 9 "java/lang/String" "value" "[B")) (Or.inr ⟨_, (wk W (.laysFinal "java/lang/String" "java/lang/String" "value" "[B"))⟩) (Or.inl ⟨rfl, hnm⟩) f1 (Or.inl rfl) bl13 (t := (.array .byte)) (by decide +kernel) rfl (g := (mkF m 54 #[.val (.ref a), .val (.ref b), .val (.int (Int32.ofNat o)), .val (.int (Int32.ofNat len)), .val .null, .val (.ref s.heap.size)] [.ref s.heap.size, .ref a])) rfl (rest := []) rfl (hb hbytes d54)
  have c16 : Steps p.tables e below (s₁.setTop (entryFrame m #[.ref a, .ref b, .int (Int32.ofNat o), .int (Int32.ofNat len), .null] 6)) (T15.setTop (mkF m 57 #[.val (.ref a), .val (.ref b), .val (.int (Int32.ofNat o)), .val (.int (Int32.ofNat len)), .val .null, .val (.ref s.heap.size)] [])) := c14.trans (st15 _ (Steps.refl _))
  have ap := apart (Or.inr ⟨_, (wk W (.laysFinal "java/lang/String" "java/lang/String" "value" "[B"))⟩) (Or.inr ⟨_, (wk W (.laysFinal "java/lang/String" "java/lang/String" "coder" "B"))⟩) f1 f2 (t₁ := .array .byte) (t₂ := .byte) (by decide +kernel) (by decide +kernel) (by decide)
  have al := X8.warmed.alike.symm.trans X15.warmed.alike
  have n7 : T11.heap[s.heap.size]? = some N := by rw [q11]; exact n1.1
  exact ⟨T15, none, _, _, _, X15, by simp, rfl, by omega, (fun _ => rfl), ⟨rfl, _, N, bl15, ((Same.refl D _).set _ (by simp)).set _ (by simp), sl15, (Cell.slots_setSlot_ne _ ap).trans sl13, n1.keep al (p15.other hne (p13.other hne n7)), n2, by rw [al.findClass]; exact n3, n4, n5, fun y c h1 h2 => p15.other h1 (p13.other h1 (by rw [q11]; exact n6 y c h2)), by rw [p15.2.2, p13.2.2, q11]; exact z8⟩, fun fs hl => c16.trans (X15.returnOut hexec hret (hb hbytes d57) hl)⟩
end New4
namespace New1
def yN : MethodName := ⟨"java/lang/String", "<init>", "([C)V"⟩
abbrev yB : ByteArray := jdk_42_method_3_code
theorem d0 : decode yB 0 = .ok (.aload_n 0, 1) := by decide +kernel
theorem d1 : decode yB 1 = .ok (.aload_n 1, 1) := by decide +kernel
theorem d2 : decode yB 2 = .ok (.iconst 0, 1) := by decide +kernel
theorem d3 : decode yB 3 = .ok (.aload_n 1, 1) := by decide +kernel
theorem d4 : decode yB 4 = .ok (.arraylength, 1) := by decide +kernel
theorem d5 : decode yB 5 = .ok (.aconst_null, 1) := by decide +kernel
theorem d6 : decode yB 6 = .ok (.invokespecial 27, 3) := by decide +kernel
theorem d9 : decode yB 9 = .ok (.return_, 1) := by decide +kernel
def site : List Cond := [New4.tab] ++ initW "java/lang/String" 27 New4.yN
def tab : Cond := tabOf yN yB 2 none site
def P (a : Addr) (D : Cell) (fV fC : Field) (b : Addr) (A : Cell) (z : Int32) (args : Array Value) (s : State) : Prop := args = #[.ref a, .ref b] ∧ Blank "java/lang/String" a D s ∧ Found "java/lang/String" "value" "[B" fV s ∧ Found "java/lang/String" "coder" "B" fC s ∧ Ch b A s ∧ StaticIs s "java/lang/String" "COMPACT_STRINGS" "Z" (.int z) ∧ ¬ z = 0 ∧ 0 < A.slots.size ∧ A.slots.size ≤ 536870912 ∧ ∀ i, i < A.slots.size → ¬ 255 < cv A i
def E (a : Addr) (D : Cell) (fV fC : Field) (A : Cell) (r : Option Value) (s u : State) : Prop := Got a D fV fC A 0 A.slots.size r s u
/-- new String(chars), not empty, no char above 255: a Latin-1 String of their low bytes -/
theorem law (l : Launch) (a : Addr) (D : Cell) (fV fC : Field) (b : Addr) (A : Cell) (z : Int32) : Law l yN 2 1 3 52 yB 2 none site (P a D fV fC b A z) (E a D fV fC A) [⟨a, fC.slot⟩, ⟨a, fV.slot⟩] 1 A.slots.size := by
  refine Law.of_walk (plainFor_of_name (by decide +kernel)) (by decide +kernel) (by decide +kernel) (by decide) (fun _ _ h => by rw [h.1]; rfl) (fun _ U U' hal hh h => ⟨h.1, h.2.1.mv hal hh, h.2.2.1.al hal, h.2.2.2.1.al hal, h.2.2.2.2.1.mv hal hh, h.2.2.2.2.2.1.there hal hh, h.2.2.2.2.2.2⟩) (fun r U U' V V' h1 hal h2 h => Got.mv r U U' V V' h1 hal h2 h) ?_
  intro p e s m args below meth c s₁ X0 hexec hbytes hml hret hlk hnm hown hh0 W hP
  obtain ⟨rfl, hB, f1, f2, hA, s1, hz, l0, l2, hp⟩ := hP
  have c1 : Steps p.tables e below (s₁.setTop (entryFrame m #[.ref a, .ref b] 2)) (s₁.setTop (mkF m 0 #[.val (.ref a), .val (.ref b)] [])) := entry rfl
  have c2 : Steps p.tables e below (s₁.setTop (entryFrame m #[.ref a, .ref b] 2)) (s₁.setTop (mkF m 6 #[.val (.ref a), .val (.ref b)] [.null, .int (Int32.ofNat A.slots.size), .int 0, .ref b, .ref a])) := c1.trans (by
    refine XS.aloadN X0.here hexec rfl (hb hbytes d0) rfl rfl ?_
    refine XS.aloadN X0.here hexec rfl (hb hbytes d1) rfl rfl ?_
    refine iconstV X0.here hexec rfl 0 (hb hbytes d2) (by decide) ?_
    refine XS.aloadN X0.here hexec rfl (hb hbytes d3) rfl rfl ?_
    refine X0.alen hexec (hA.1.mv X0.warmed.alike hh0) rfl rfl (hb hbytes d4) ?_
    refine XS.aconstNull X0.here hexec rfl (hb hbytes d5) ?_
    exact Steps.refl _)
  obtain ⟨v3, T3, X3, E3, g3⟩ := X0.callN hexec (New4.law l a D fV fC b A z 0 A.slots.size) rfl hown (wks W (initW "java/lang/String" 27 New4.yN)) (W New4.tab (by simp only [site, List.mem_cons, List.mem_append, true_or, or_true])) (W := 0) (Nat.le_of_ble_eq_true rfl) (Nat.le_of_ble_eq_true rfl) (Nat.le_refl _) (by show 0 + A.slots.size ≤ A.slots.size; omega) (g := (mkF m 6 #[.val (.ref a), .val (.ref b)] [.null, .int (Int32.ofNat A.slots.size), .int (Int32.ofNat 0), .ref b, .ref a])) rfl (by rw [hml]; rfl) c2 (argsL := [.ref b, .int (Int32.ofNat 0), .int (Int32.ofNat A.slots.size), .null]) (rest := []) rfl rfl (by show 2 * 0 + 0 ≤ _; decide) (hb hbytes d6) (⟨rfl, hB.mv X0.warmed.alike hh0, f1.al X0.warmed.alike, f2.al X0.warmed.alike, hA.mv X0.warmed.alike hh0, s1.there X0.warmed.alike hh0, hz, l0, by omega, l2, fun i hi => by rw [Nat.zero_add]; exact hp i hi⟩)
  have e0 := Got.mv _ s₁ s _ _ hh0.symm (Vm.Alike.refl _) rfl E3
  obtain rfl := e0.1
  have c4 : Steps p.tables e below (s₁.setTop (entryFrame m #[.ref a, .ref b] 2)) (T3.setTop (mkF m 9 #[.val (.ref a), .val (.ref b)] [])) := g3
  exact ⟨T3, none, _, _, _, X3, by simp, rfl, by omega, (fun _ => rfl), e0, fun fs hl => c4.trans (X3.returnOut hexec hret (hb hbytes d9) hl)⟩
theorem pays {l : Launch} {R : Room} {p : Program} {e : Env} {below : List Frame} {s : State} {sargs : Array Value} {len W : Nat} (a : Addr) (D : Cell) (fV fC : Field) (b : Addr) (A : Cell) (z : Int32) (htab : tab.before sargs s = true) (hfr : 4 ≤ R.frames) (hlo : W + 65 ≤ R.locals) :
    Back l R p e below s sargs yN len W (fun A₁ a₁ => A₁.cells + 1 ≤ R.cells ∧ A₁.slots + A.slots.size ≤ R.slots ∧ P a D fV fC b A z a₁ A₁.U) (fun A₁ _ v₁ B₁ => E a D fV fC A v₁ A₁.U B₁.U ∧ B₁.locs = A₁.locs ++ [⟨a, fC.slot⟩, ⟨a, fV.slot⟩] ∧ B₁.cells = A₁.cells + 1 ∧ B₁.slots = A₁.slots + A.slots.size) :=
  (law l a D fV fC b A z).pays htab hfr (by omega)
end New1
/-- the byte, read back as charAt reads it, is the char -/
theorem lo8_mask {x : Int32} (h0 : ¬ x < 0) (h1 : ¬ 255 < x) : lo8 x &&& 255 = x := by
  have t : ∀ k : Fin 256, lo8 (Int32.ofNat k.val) &&& 255 = Int32.ofNat k.val := by decide +kernel
  rw [Int32.lt_iff_toInt_lt] at h0 h1
  have e0 : (0 : Int32).toInt = 0 := rfl
  have e1 : (255 : Int32).toInt = 255 := rfl
  obtain ⟨k, hk⟩ : ∃ k : Nat, x.toInt = k := ⟨x.toInt.toNat, by omega⟩
  have hx : x = Int32.ofNat k := Int32.toInt_inj.mp (by rw [hk, Int32.toInt_ofNat_small (by omega)])
  rw [hx]
  exact t ⟨k, by omega⟩
end StrChars
namespace StrChars.Road
open Jvm Sem ClassFile Op Lib Jvm.Stand Jvm.Free Jvm.Free.XT
open Jvm.Lib.Cold (StaticIs)
abbrev ST : String := "java/lang/String"
/-- every table word that New1's law asks, flat -/
abbrev words : List Jvm.Cond := [.code New1.yN New1.yB 2 none, .initialized ST, .methodLink ST 27 New4.yN, .instanceMethod New4.yN,
  .code New4.yN New4.yB 6 none, .fieldLink ST 38 ST "COMPACT_STRINGS" "Z", .laysFinal ST ST "value" "[B", .fieldLink ST 9 ST "value" "[B", .laysFinal ST ST "coder" "B", .fieldLink ST 15 ST "coder" "B",
  .methodLink ST 1 Lib.objectInit, .instanceMethod Lib.objectInit, .code Lib.objectInit ⟨#[0xb1]⟩ 1 none, .methodLink ST 177 Cmp3.yN, .static Cmp3.yN, .methodLink ST 47 CodL.yN, .static CodL.yN,
  .code Cmp3.yN Cmp3.yB 6 (some (.array .byte)), .initialized U16, .arrayClass .byte, .methodLink U16 115 Cmp5.yN, .static Cmp5.yN, .code Cmp5.yN Cmp5.yB 7 (some .int), .code CodL.yN CodL.yB 2 (some .byte)]
theorem tab_of {a : Array Value} {s : State} (h : ∀ w ∈ words, w.before a s = true) : New1.tab.before a s = true := by
  have h5 : Cmp5.tab.before a s = true := unparts (wk h (.code Cmp5.yN Cmp5.yB 7 (some .int))) (wks h (.initialized Cmp5.yN.cls :: Cmp5.site))
  have hc : CodL.tab.before a s = true := unparts (wk h (.code CodL.yN CodL.yB 2 (some .byte))) (wks h (.initialized CodL.yN.cls :: CodL.site))
  have q5 : ∀ w ∈ Cmp5.tab :: words, w.before a s = true := fun w hw => (List.mem_cons.mp hw).elim (fun e => e ▸ h5) (h w)
  have h3 : Cmp3.tab.before a s = true := unparts (wk q5 (.code Cmp3.yN Cmp3.yB 6 (some (.array .byte)))) (wks q5 (.initialized Cmp3.yN.cls :: Cmp3.site))
  have q3 : ∀ w ∈ Cmp3.tab :: CodL.tab :: words, w.before a s = true := fun w hw => (List.mem_cons.mp hw).elim (fun e => e ▸ h3) fun hw => (List.mem_cons.mp hw).elim (fun e => e ▸ hc) (h w)
  have h4 : New4.tab.before a s = true := unparts (wk q3 (.code New4.yN New4.yB 6 none)) (wks q3 (.initialized New4.yN.cls :: New4.site))
  have q4 : ∀ w ∈ New4.tab :: words, w.before a s = true := fun w hw => (List.mem_cons.mp hw).elim (fun e => e ▸ h4) (h w)
  exact unparts (wk q4 (.code New1.yN New1.yB 2 none)) (wks q4 (.initialized New1.yN.cls :: New1.site))
/-- the words ride from the start Z to the walk's own state -/
theorem moved {Z s : State} {a0 args : Array Value} (hZ : Z.Warmed39 s.vm) (hw : ∀ d ∈ words, d.before a0 Z = true) : ∀ d ∈ words, d.before args s = true := fun d hd => by
  have q := hw d hd
  have t : ∀ d ∈ words, d = .arrayClass .byte ∨ (d.onTables && d.keepsFace) = true := by decide +kernel
  rcases t d hd with rfl | t
  · exact RoadKit.mvA hZ q
  · exact RoadKit.mv hZ q t
/-- WHAT COMES BACK, over the tables of the start Z: h the heap at the call, h' behind it -/
def Q (Z : State) (x : Addr) (A : Cell) (h : Heap) (v : Option Value) (h' : Heap) (L : List Loc) : Prop := v = none ∧ (∀ y ∈ L, y.base = x) ∧ RoadKit.Keep h h' [x] ∧ h'.size = h.size + 1 ∧ RoadKit.Exa Z h' x ST ∧ RoadKit.Fld Z h' x ST "value" "[B" (.ref h.size) ∧ RoadKit.Fld Z h' x ST "coder" "B" (.int 0) ∧
  (∃ V : Cell, RoadKit.Arr Z h' h.size V .byte ∧ V.vm = .none ∧ Z.vm.findClass "[B" = some V.cls ∧ V.slots.size = A.slots.size ∧ ∀ j, j < A.slots.size → V.slots[j]? = some (.int (lo8 (cv A j)))) ∧
  ∀ (O n d : String) (w : Value), RoadKit.Fld Z h x O n d w → RoadKit.slotOf Z O n d ≠ RoadKit.slotOf Z ST "value" "[B" → RoadKit.slotOf Z O n d ≠ RoadKit.slotOf Z ST "coder" "B" → RoadKit.Fld Z h' x O n d w
/-- **new String(chars) AT A CALL, IN THE ROAD'S FORM**: for specialBack behind newO: x the fresh String, b the char[] with the cell A -/
theorem back {p : Program} {l : Launch} {e : Env} {R : Room} {s : State} {args : Array Value} {below : List Frame} {len W : Nat} {Z : State} {a0 : Array Value} {h : Heap} (hZ : Z.Warmed39 s.vm) (hw : ∀ d ∈ words, d.before a0 Z = true) {kI : Nat} (wi : (Jvm.Cond.instantiable ST kI).before a0 Z = true)
    {x b : Addr} {A : Cell} {z : Int32} {v0 c0 : Value} (E : RoadKit.Exa Z h x ST) (V : RoadKit.Fld Z h x ST "value" "[B" v0) (C : RoadKit.Fld Z h x ST "coder" "B" c0) (K : RoadKit.Arr Z h b A .char) (hty : Typed .char A) (S : RoadKit.Sta Z h ST "COMPACT_STRINGS" "Z" (.int z)) (hz : ¬ z = 0)
    (l0 : 0 < A.slots.size) (l2 : A.slots.size ≤ 536870912) (hp : ∀ i, i < A.slots.size → ¬ 255 < cv A i) (hfr : 4 ≤ R.frames) (hlo : W + 65 ≤ R.locals) :
    Back l R p e below s args New1.yN len W (fun P a => a = #[.ref x, .ref b] ∧ P.U.heap = h ∧ P.cells + 1 ≤ R.cells ∧ P.slots + A.slots.size ≤ R.slots)
      (fun P _ v B => ∃ L, Q Z x A h v B.U.heap L ∧ B.locs = P.locs ++ L ∧ B.cells = P.cells + 1 ∧ B.slots = P.slots + A.slots.size) := by
  intro m meth c P g ig mk a X hg hsize hdg hW hn hp'
  obtain ⟨rfl, rfl, r1, r2⟩ := hp'
  have al : Z.vm.Alike P.U.vm := hZ.alike.trans X.warmed.alike
  obtain ⟨D, cfV, kV, iV, fV, hD, gV, stV, knV, obV, asV, slV⟩ := id V
  obtain ⟨D', cfC, kC, iC, fC, hD', gC, stC, -, -, asC, slC⟩ := id C
  cases hD.symm.trans hD'
  obtain ⟨D2, kD, e1, e2, e3, e4, e5⟩ := id E
  cases hD.symm.trans e1
  obtain ⟨c2, k2, i1, i2, i3, -⟩ := Cond.instantiable_spec wi
  cases e2.symm.trans i1
  cases e3.symm.trans i2
  obtain ⟨kU, u1, u2⟩ := al.2.2 _ _ e3
  have hB : Blank ST x D P.U := ⟨hD, ⟨knV, fun q hq => by rw [hq] at obV; cases obV⟩, by rw [al.findClass]; exact e2, kU, u1, by rw [u2]; exact i3, by rw [u2]; exact e5 i3⟩
  have F1 : Found ST "value" "[B" fV P.U := ⟨SBG.found_only al ⟨cfV, kV, iV, gV⟩, stV⟩
  have F2 : Found ST "coder" "B" fC P.U := ⟨SBG.found_only al ⟨cfC, kC, iC, gC⟩, stC⟩
  have hA : Ch b A P.U := ⟨⟨K.1, State.isArrayOf_alike al K.2.1, K.2.2, by omega⟩, hty⟩
  have hS : StaticIs P.U ST "COMPACT_STRINGS" "Z" (.int z) := by
    obtain ⟨cfS, iS, kS, fS, st, cS, t1, t2, t3, t4, t5, t6, t7⟩ := S
    exact StaticIs.there (s := { Z with heap := P.U.heap }) ⟨cfS, iS, kS, fS, st, cS, t1, t2, t3, t4, t5, (fun q => by rw [q] at t6; cases t6), t7⟩ al rfl
  obtain ⟨v, B, X', ⟨⟨hv, E', V', q1, q2, q3, q4, q5, q6, q7, q8, q9, q10, q11⟩, hl, hc, hs⟩, st⟩ := New1.pays x D fV fC b A z (tab_of (moved hZ hw)) hfr hlo m meth c P g ig mk _ X hg hsize hdg hW hn ⟨r1, r2, rfl, hB, F1, F2, hA, hS, hz, l0, l2, hp⟩
  have al' : Z.vm.Alike B.U.vm := hZ.alike.trans X'.warmed.alike
  have hsz : E'.slots.size = D.slots.size := by
    obtain ⟨-, -, -, kB, w1, w2, w3⟩ := q1
    obtain ⟨kB', y1, y2⟩ := al'.2.2 _ _ e3
    rw [q2.2.1] at w1
    cases w1.symm.trans y1
    rw [w3, e5 i3, y2]
  refine ⟨v, B, X', ⟨_, ⟨hv, ?_, ⟨by omega, fun y cy hy hn' => q10 y cy (by simpa using hn') hy, fun y cy hy => ?_⟩, q11, ⟨E', _, q1.1, by rw [q2.2.1]; exact e2, by rw [q2.2.1]; exact e3, by rw [q2.1]; exact obV, fun _ => by rw [hsz]; exact e5 i3⟩,
    ⟨E', cfV, kV, iV, fV, q1.1, gV, stV, by rw [q2.1]; exact knV, by rw [q2.1]; exact obV, by rw [q2.2.1]; exact asV, q3⟩, ⟨E', cfC, kC, iC, fC, q1.1, gC, stC, by rw [q2.1]; exact knV, by rw [q2.1]; exact obV, by rw [q2.2.1]; exact asC, q4⟩,
    ⟨V', ⟨q5.1, State.isArrayOf_alike al'.symm q5.2.1, q5.2.2.1⟩, q6, by rw [← al'.findClass]; exact q7, q8, fun j hj => by have := q9 j hj; rwa [Nat.zero_add] at this⟩, fun O n d w F n1 n2 => ?_⟩, hl, hc, hs⟩, st⟩
  · intro y hy
    simp only [List.mem_cons, List.not_mem_nil, or_false] at hy
    rcases hy with rfl | rfl <;> rfl
  · by_cases q : y = x
    · subst q
      cases hD.symm.trans hy
      exact ⟨E', q1.1, q2.2.1, q2.1, hsz⟩
    · exact ⟨cy, q10 y cy q hy, rfl, rfl, rfl⟩
  · obtain ⟨D3, cf, k, i, f, g1, g2, g3, g4, g5, g6, g7⟩ := F
    cases hD.symm.trans g1
    simp only [RoadKit.slotOf, g2, gV, gC, Option.map_some, Option.getD_some] at n1 n2
    exact ⟨E', cf, k, i, f, q1.1, g2, g3, by rw [q2.1]; exact g4, by rw [q2.1]; exact g5, by rw [q2.2.1]; exact g6, by rw [q2.2.2 f.slot (by simp [n1, n2])]; exact g7⟩
end StrChars.Road
namespace StrChars.Road
open Jvm Sem ClassFile Op Lib Jvm.Stand Jvm.Free Jvm.Free.XT
/-- WHAT COMES BACK, the byte[] as a list of values -/
def QA (Z : State) (x : Addr) (zn : Int32) (cs : List Int32) (h : Heap) (v : Option Value) (h' : Heap) (L : List Loc) : Prop := v = none ∧ (∀ y ∈ L, y.base = x) ∧ RoadKit.Keep h h' [x] ∧ h'.size = h.size + 1 ∧ RoadKit.Exa Z h' x ST ∧ RoadKit.Fld Z h' x ST "value" "[B" (.ref h.size) ∧ RoadKit.Fld Z h' x ST "coder" "B" (.int 0) ∧
  (∃ kb, Z.vm.findClass "[B" = some kb ∧ RoadKit.Arv Z h' h.size kb .byte zn (cs.map fun c => .int (lo8 c)) (.int 0)) ∧
  ∀ (O n d : String) (w : Value), RoadKit.Fld Z h x O n d w → RoadKit.slotOf Z O n d ≠ RoadKit.slotOf Z ST "value" "[B" → RoadKit.slotOf Z O n d ≠ RoadKit.slotOf Z ST "coder" "B" → RoadKit.Fld Z h' x O n d w
/-- **new String(chars) AT A CALL, THE ARRAYS AS LISTS**: the char[] at b holds cs, not empty, no char above 255 -/
theorem backArv {p : Program} {l : Launch} {e : Env} {R : Room} {s : State} {args : Array Value} {below : List Frame} {len W : Nat} {Z : State} {a0 : Array Value} {h : Heap} (hZ : Z.Warmed39 s.vm) (hw : ∀ d ∈ words, d.before a0 Z = true) {kI : Nat} (wi : (Jvm.Cond.instantiable ST kI).before a0 Z = true)
    {x b : Addr} {k : ClassId} {zn z : Int32} {cs : List Int32} {dv v0 c0 : Value} (E : RoadKit.Exa Z h x ST) (V : RoadKit.Fld Z h x ST "value" "[B" v0) (C : RoadKit.Fld Z h x ST "coder" "B" c0) (K : RoadKit.Arv Z h b k .char zn (cs.map Value.int) dv) (S : RoadKit.Sta Z h ST "COMPACT_STRINGS" "Z" (.int z)) (hz : ¬ z = 0)
    (hlen : zn.toNatClampNeg = cs.length) (h0 : 0 < cs.length) (hbig : cs.length ≤ 536870912) (hall : ∀ c ∈ cs, ¬ 255 < c) (hfr : 4 ≤ R.frames) (hlo : W + 65 ≤ R.locals) :
    Back l R p e below s args New1.yN len W (fun P a => a = #[.ref x, .ref b] ∧ P.U.heap = h ∧ P.cells + 1 ≤ R.cells ∧ P.slots + cs.length ≤ R.slots)
      (fun P _ v B => ∃ L, QA Z x zn cs h v B.U.heap L ∧ B.locs = P.locs ++ L ∧ B.cells = P.cells + 1 ∧ B.slots = P.slots + cs.length) := by
  obtain ⟨A, K1, K2, K3, K4, K5, K6⟩ := K
  have e : A.slots.size = cs.length := K3.trans hlen
  have hat : ∀ (i : Nat) (hi : i < cs.length), A.slots[i]? = some (.int cs[i]) := fun i hi => by rw [K5 i (by omega)]; simp [List.getD_eq_getElem?_getD, hi]
  have hcv : ∀ (i : Nat) (hi : i < cs.length), cv A i = cs[i] := fun i hi => by unfold cv; rw [hat i hi]
  have hty : Typed .char A := fun i v hv => by
    have hi : i < A.slots.size := (Array.getElem?_eq_some_iff.mp hv).1
    have q := K5 i hi
    rw [hv] at q
    rw [Option.some.inj q]
    exact K6 i hi
  refine Back.mono (back hZ hw wi E V C K1 hty S hz (by omega) (by omega) (fun i hi => by rw [hcv i (by omega)]; exact hall _ (List.getElem_mem _)) hfr hlo) (fun P a hp => ⟨hp.1, hp.2.1, hp.2.2.1, by rw [e]; exact hp.2.2.2⟩) (fun P a v B hp hq => ?_)
  obtain ⟨L, ⟨q1, q2, q3, q4, q5, q6, q7, ⟨V', v1, v2, v3, v4, v5⟩, q9⟩, hl, hc, hs⟩ := hq
  refine ⟨L, ⟨q1, q2, q3, q4, q5, q6, q7, ⟨V'.cls, v3, V', v1, rfl, by rw [v4, e, hlen], K4, fun i hi => ?_, fun i hi => ?_⟩, q9⟩, hl, hc, by rw [hs, e]⟩
  · have hi' : i < cs.length := by omega
    rw [v5 i (by omega), hcv i hi']; simp [List.getD_eq_getElem?_getD, hi']
  · have hi' : i < cs.length := by omega
    simp only [List.getD_eq_getElem?_getD, List.getElem?_map, List.getElem?_eq_getElem hi', Option.map_some, Option.getD_some]
    exact fits_lo8 _
end StrChars.Road
namespace StrChars.Road
open Jvm Sem ClassFile Op Lib Jvm.Stand Jvm.Free Jvm.Free.XT
/-- WHAT COMES BACK, in the writer's own shape -/
def QV (Z : State) (x : Addr) (N : Int32) (bs : List Int32) (h : Heap) (n0 : Nat) (v : Option Value) (h' : Heap) (L : List Loc) : Prop := v = none ∧ RoadKit.Fr n0 L ∧ RoadKit.Keep h h' [x] ∧ RoadKit.Exa Z h' x ST ∧ RoadKit.Fld Z h' x ST "coder" "B" (.int 0) ∧
  ∃ (t : Addr) (kb : ClassId), n0 ≤ t ∧ h.size ≤ t ∧ ¬ t = x ∧ RoadKit.Fld Z h' x ST "value" "[B" (.ref t) ∧ RoadKit.Arv Z h' t kb .byte N (bs.map Value.int) (.int 0)
/-- **new String(chars) AT A CALL, FOR THE WRITER**: a char[] of n known ints, each 0 to 255 -/
theorem backV {p : Program} {l : Launch} {e : Env} {R : Room} {s : State} {args : Array Value} {below : List Frame} {len W : Nat} {Z : State} {a0 : Array Value} {h : Heap} (hZ : Z.Warmed39 s.vm) (hw : ∀ d ∈ words, d.before a0 Z = true) {kI : Nat} (wi : (Jvm.Cond.instantiable ST kI).before a0 Z = true)
    {x b : Addr} {kC : ClassId} {cs bs : List Int32} {d v0 c0 : Value} {z N : Int32} {n n0 : Nat} (hx0 : n0 ≤ x) (hh0 : n0 ≤ h.size) (E : RoadKit.Exa Z h x ST) (V : RoadKit.Fld Z h x ST "value" "[B" v0) (C : RoadKit.Fld Z h x ST "coder" "B" c0) (K : RoadKit.Arv Z h b kC .char N (cs.map Value.int) d) (S : RoadKit.Sta Z h ST "COMPACT_STRINGS" "Z" (.int z)) (hz : ¬ z = 0)
    (hn : cs.length = n) (hN : N = Int32.ofNat n) (l0 : 0 < n) (l2 : n ≤ 4000) (hp : ∀ c ∈ cs, ¬ c < 0 ∧ ¬ (255 : Int32) < c) (hb : bs = cs.map (fun c => c.toInt8.toInt32)) (hfr : 4 ≤ R.frames) (hlo : W + 65 ≤ R.locals) :
    Back l R p e below s args (⟨"java/lang/String", "<init>", "([C)V"⟩ : MethodName) len W (fun P a => a = #[.ref x, .ref b] ∧ P.U.heap = h ∧ P.cells + 1 ≤ R.cells ∧ P.slots + n ≤ R.slots)
      (fun P _ v B => ∃ L, QV Z x N bs h n0 v B.U.heap L ∧ B.locs = P.locs ++ L ∧ B.cells = P.cells + 1 ∧ B.slots = P.slots + n) := by
  subst hn hN hb
  refine Back.mono (backArv hZ hw wi E V C K S hz (n32 (by omega)) l0 (by omega) (fun c hc => (hp c hc).2) hfr hlo) (fun P a hp => hp) (fun P a v B hp hq => ?_)
  obtain ⟨L, ⟨q1, q2, q3, q4, q5, q6, q7, ⟨kb, v1, v2⟩, q9⟩, hl, hc, hs⟩ := hq
  exact ⟨L, ⟨q1, fun y hy => by rw [q2 y hy]; exact hx0, q3, q5, q7, h.size, kb, hh0, Nat.le_refl _, Nat.ne_of_gt E.lt, q6, by rw [List.map_map]; exact v2⟩, hl, hc, hs⟩
end StrChars.Road
namespace StrChars
open Jvm Sem ClassFile Op Lib Jvm.Stand Jvm.Free.XT Jvm.Free.ALB Jvm.Free.JM Jvm.Free
open Jvm.Lib.Cold (StaticIs)
def hi8 (x : Int32) : Int32 := lo8 (x >>> ((8 : Int32) &&& 31))
/-- what StringUTF16.getChar makes of two bytes -/
def pairCh (u v : Int32) : Int32 := (((u &&& 255) <<< ((0 : Int32) &&& 31)) ||| ((v &&& 255) <<< ((8 : Int32) &&& 31))).toUInt32.toUInt16.toUInt32.toInt32
theorem lo8_and (x : Int32) : (lo8 x &&& 255).toBitVec.toNat = x.toBitVec.toNat % 256 := by
  have h : (lo8 x).toBitVec = (x.toBitVec.signExtend 8).signExtend 32 := by rw [lo8, Int8.toBitVec_toInt32, Int32.toBitVec_toInt8]
  rw [Int32.toBitVec_and, BitVec.toNat_and, h]
  have e : ((x.toBitVec.signExtend 8).signExtend 32).toNat % 256 = x.toBitVec.toNat % 256 := by
    rw [BitVec.toNat_signExtend]
    have hlt := x.toBitVec.isLt
    simp only [BitVec.toNat_setWidth, BitVec.toNat_signExtend]
    split <;> split <;> omega
  rw [← e]
  exact Nat.and_two_pow_sub_one_eq_mod _ 8
theorem pair_says {c : Int32} (h0 : ¬ c < 0) (h1 : ¬ 65535 < c) : pairCh (lo8 c) (hi8 c) = c := by
  rw [Int32.lt_iff_toInt_lt] at h0 h1
  have e0 : (0 : Int32).toInt = 0 := rfl
  have e1 : (65535 : Int32).toInt = 65535 := rfl
  have hc : c.toInt = c.toBitVec.toNat := by
    have := c.toBitVec.isLt
    have e : c.toInt = c.toBitVec.toInt := rfl
    rw [e] at h0 h1
    rw [e]
    rw [BitVec.toInt_eq_toNat_cond] at h0 h1 ⊢
    split at h0 <;> split <;> omega
  have hn : c.toBitVec.toNat < 65536 := by omega
  have a1 := lo8_and c
  have a2 : (hi8 c &&& 255).toBitVec.toNat = c.toBitVec.toNat / 256 := by
    rw [hi8, lo8_and]
    have e : ((8 : Int32) &&& 31) = 8 := by decide
    rw [e, Int32.toBitVec_shiftRight]
    have e2 : ((8 : Int32).toBitVec.smod 32) = 8#32 := by decide
    rw [e2, BitVec.sshiftRight_eq', BitVec.toNat_sshiftRight_of_msb_false (by rw [BitVec.msb_eq_false_iff_two_mul_lt]; omega)]
    show c.toBitVec.toNat >>> 8 % 256 = _
    rw [Nat.shiftRight_eq_div_pow]
    omega
  unfold pairCh
  apply Int32.toBitVec_inj.mp
  apply BitVec.eq_of_toNat_eq
  have f0 : ((0 : Int32) &&& 31) = 0 := by decide
  have f8 : ((8 : Int32) &&& 31) = 8 := by decide
  rw [f0, f8]
  have g : (((lo8 c &&& 255) <<< (0 : Int32)) ||| ((hi8 c &&& 255) <<< (8 : Int32))).toBitVec.toNat = c.toBitVec.toNat := by
    rw [Int32.toBitVec_or, Int32.toBitVec_shiftLeft, Int32.toBitVec_shiftLeft]
    have s0 : ((0 : Int32).toBitVec.smod 32) = 0#32 := by decide
    have s8 : ((8 : Int32).toBitVec.smod 32) = 8#32 := by decide
    rw [s0, s8, BitVec.toNat_or]
    simp only [BitVec.shiftLeft_eq', BitVec.toNat_shiftLeft, a1, a2]
    show (c.toBitVec.toNat % 256) <<< 0 % 2 ^ 32 ||| (c.toBitVec.toNat / 256) <<< 8 % 2 ^ 32 = _
    rw [Nat.shiftLeft_zero, Nat.mod_eq_of_lt (show c.toBitVec.toNat % 256 < 2 ^ 32 by omega), Nat.mod_eq_of_lt (show (c.toBitVec.toNat / 256) <<< 8 < 2 ^ 32 by rw [Nat.shiftLeft_eq]; omega), Nat.or_comm, ← Nat.shiftLeft_add_eq_or_of_lt (by omega), Nat.shiftLeft_eq]
    omega
  show BitVec.toNat (((((lo8 c &&& 255) <<< (0 : Int32)) ||| ((hi8 c &&& 255) <<< (8 : Int32))).toBitVec.setWidth 16).setWidth 32) = _
  rw [BitVec.toNat_setWidth, BitVec.toNat_setWidth, g]
  omega
end StrChars
namespace StrChars
open Jvm Sem ClassFile Op Lib Jvm.Stand Jvm.Free.XT Jvm.Free.ALB Jvm.Free.JM Jvm.Free
open Jvm.Lib.Cold (StaticIs)
/-- charAt's cast of a byte read back -/
def chr8 (u : Int32) : Int32 := (u &&& 255).toUInt32.toUInt16.toUInt32.toInt32
theorem chr8_lo8 {c : Int32} (h0 : ¬ c < 0) (h1 : ¬ 255 < c) : chr8 (lo8 c) = c := by
  have t : ∀ k : Fin 256, (Int32.ofNat k.val).toUInt32.toUInt16.toUInt32.toInt32 = Int32.ofNat k.val := by decide +kernel
  unfold chr8
  rw [lo8_mask h0 h1]
  rw [Int32.lt_iff_toInt_lt] at h0 h1
  have e0 : (0 : Int32).toInt = 0 := rfl
  have e1 : (255 : Int32).toInt = 255 := rfl
  obtain ⟨k, hk⟩ : ∃ k : Nat, c.toInt = k := ⟨c.toInt.toNat, by omega⟩
  have hx : c = Int32.ofNat k := Int32.toInt_inj.mp (by rw [hk, Int32.toInt_ofNat_small (by omega)])
  rw [hx]
  exact t ⟨k, by omega⟩
theorem narrow_ch {c : Int32} (h0 : ¬ c < 0) (h1 : ¬ 65535 < c) : narrow .char (.int c) = .int c := by
  have q : narrow .char (.int (pairCh (lo8 c) (hi8 c))) = .int (pairCh (lo8 c) (hi8 c)) := narrow_c _
  rwa [pair_says h0 h1] at q
/-- the array's cell V codes the n chars f 0 .. f (n - 1) by the coder cd, as the JDK does: coder 1 just where some char is above 255 -/
def Cod (cd : Int32) (n : Nat) (f : Nat → Int32) (V : Cell) : Prop := (cd = 0 ∧ V.slots.size = n ∧ ∀ j, j < n → V.slots[j]? = some (.int (lo8 (f j))) ∧ ¬ 255 < f j) ∨ (cd = 1 ∧ V.slots.size = 2 * n ∧ (∀ j, j < n → V.slots[2 * j]? = some (.int (lo8 (f j))) ∧ V.slots[2 * j + 1]? = some (.int (hi8 (f j)))) ∧ ∃ j, j < n ∧ 255 < f j)
theorem Cod.cd {cd : Int32} {n : Nat} {f : Nat → Int32} {V : Cell} (h : Cod cd n f V) : cd = 0 ∨ cd = 1 := h.imp (fun q => q.1) fun q => q.1
/-- **x is a String of the n chars f 0 .. f (n - 1)**, Latin-1 or UTF-16; its array at t has the cell V -/
def Txt (x t : Addr) (V : Cell) (cd : Int32) (n : Nat) (f : Nat → Int32) (U : State) : Prop := Exact "java/lang/String" x U ∧ Has x "java/lang/String" "value" "[B" (.ref t) U ∧ Has x "java/lang/String" "coder" "B" (.int cd) U ∧ XT.Arr .byte t V U ∧ Cod cd n f V ∧ ∀ j, j < n → ¬ f j < 0 ∧ ¬ 65535 < f j
theorem Txt.mv {x t : Addr} {V : Cell} {cd : Int32} {n : Nat} {f : Nat → Int32} {U U' : State} (h : Txt x t V cd n f U) (hal : U.vm.Alike U'.vm) (hh : U'.heap = U.heap) : Txt x t V cd n f U' := ⟨h.1.mv hal hh, h.2.1.mv hal hh, h.2.2.1.mv hal hh, h.2.2.2.1.mv hal hh, h.2.2.2.2⟩
namespace IsL
def yN : MethodName := ⟨"java/lang/String", "isLatin1", "()Z"⟩
abbrev yB : ByteArray := jdk_42_method_154_code
theorem d0 : decode yB 0 = .ok (.getstatic 38, 3) := by decide +kernel
theorem d3 : decode yB 3 = .ok (.ifCond (.eq) 14, 3) := by decide +kernel
theorem d6 : decode yB 6 = .ok (.aload_n 0, 1) := by decide +kernel
theorem d7 : decode yB 7 = .ok (.getfield 15, 3) := by decide +kernel
theorem d10 : decode yB 10 = .ok (.ifCond (.ne) 7, 3) := by decide +kernel
theorem d13 : decode yB 13 = .ok (.iconst 1, 1) := by decide +kernel
theorem d14 : decode yB 14 = .ok (.goto 4, 3) := by decide +kernel
theorem d17 : decode yB 17 = .ok (.iconst 0, 1) := by decide +kernel
theorem d18 : decode yB 18 = .ok (.ireturn, 1) := by decide +kernel
def site : List Cond := [.fieldLink "java/lang/String" 38 "java/lang/String" "COMPACT_STRINGS" "Z", .fieldLink "java/lang/String" 15 "java/lang/String" "coder" "B"]
def tab : Cond := tabOf yN yB 1 (some .boolean) site
def P (x : Addr) (cd z : Int32) (args : Array Value) (s : State) : Prop := args = #[.ref x] ∧ Has x "java/lang/String" "coder" "B" (.int cd) s ∧ (cd = 0 ∨ cd = 1) ∧ StaticIs s "java/lang/String" "COMPACT_STRINGS" "Z" (.int z) ∧ ¬ z = 0
def E (cd : Int32) (r : Option Value) (s u : State) : Prop := XT.PureE (some (.int (1 - cd))) r s u
theorem law (l : Launch) (x : Addr) (cd z : Int32) : Law l yN 1 0 0 0 yB 1 (some .boolean) site (P x cd z) (E cd) [] 0 0 := by
  refine Law.of_walk (plainFor_of_name (by decide +kernel)) (by decide +kernel) (by decide +kernel) (by decide) (fun _ _ h => by rw [h.1]; rfl) (fun _ U U' hal hh h => ⟨h.1, h.2.1.mv hal hh, h.2.2.1, h.2.2.2.1.there hal hh, h.2.2.2.2⟩) (fun r U U' V V' h1 hal h2 h => XT.PureE.mv r U U' V V' h1 hal h2 h) ?_
  intro p e s m args below meth c s₁ X0 hexec hbytes hml hret hlk hnm hown hh0 W hP
  obtain ⟨rfl, hx, hc, s1, hz⟩ := hP
  have c1 : Steps p.tables e below (s₁.setTop (entryFrame m #[.ref x] 1)) (s₁.setTop (mkF m 0 #[.val (.ref x)] [])) := entry rfl
  obtain ⟨T2, X2, q2, st2⟩ := X0.sget hexec hown (wk W (.fieldLink "java/lang/String" 38 "java/lang/String" "COMPACT_STRINGS" "Z")) s1 (fun _ _ h => by rw [hh0]; exact h) (g := (mkF m 0 #[.val (.ref x)] [])) rfl (hb hbytes d0)
  have hh2 := q2.trans hh0
  have c3 : Steps p.tables e below (s₁.setTop (entryFrame m #[.ref x] 1)) (T2.setTop (mkF m 7 #[.val (.ref x)] [.ref x])) := (c1.trans (st2 _ (Steps.refl _))).trans (by
    refine XS.ifNo X2.here hexec rfl (hb hbytes d3) rfl (i0_eq_f hz) ?_
    refine XS.aloadN X2.here hexec rfl (hb hbytes d6) rfl rfl ?_
    exact Steps.refl _)
  obtain ⟨T4, X4, q4, st4⟩ := X2.hget hexec hown (wk W (.fieldLink "java/lang/String" 15 "java/lang/String" "coder" "B")) (hx.mv X2.warmed.alike hh2) (g := (mkF m 7 #[.val (.ref x)] [.ref x])) rfl (rest := []) rfl (hb hbytes d7)
  have c5 : Steps p.tables e below (s₁.setTop (entryFrame m #[.ref x] 1)) (T4.setTop (mkF m 10 #[.val (.ref x)] [.int cd])) := c3.trans (st4 _ (Steps.refl _))
  have c6 : Steps p.tables e below (s₁.setTop (entryFrame m #[.ref x] 1)) (T4.setTop (mkF m 18 #[.val (.ref x)] [.int (1 - cd)])) := by
    rcases hc with rfl | rfl
    · exact c5.trans (by
        refine XS.ifNo X4.here hexec rfl (hb hbytes d10) rfl (i0_ne_f rfl) ?_
        refine iconstV X4.here hexec rfl 1 (hb hbytes d13) (by decide) ?_
        refine XS.goto X4.here hexec rfl (pc0 := 14) rfl (hb hbytes d14) (by decide) rfl ?_
        exact Steps.refl _)
    · exact c5.trans (by
        refine XS.ifYes X4.here hexec rfl (pc0 := 10) rfl (hb hbytes d10) rfl (i0_ne_t (by decide)) (by decide) rfl ?_
        refine iconstV X4.here hexec rfl 0 (hb hbytes d17) (by decide) ?_
        exact Steps.refl _)
  exact ⟨T4, some (.int (1 - cd)), _, _, _, X4, rfl, rfl, rfl, (fun h => by cases h), ⟨rfl, q4.trans hh2⟩, fun fs hl => c6.trans (X4.ireturnOut hexec hret (by rcases hc with rfl | rfl <;> rfl) (Or.inr (Or.inl rfl)) (hb hbytes d18) hl)⟩
end IsL
namespace LChA
def yN : MethodName := ⟨"java/lang/StringLatin1", "charAt", "([BI)C"⟩
abbrev yB : ByteArray := jdk_43_method_2_code
theorem d0 : decode yB 0 = .ok (.iload_n 1, 1) := by decide +kernel
theorem d1 : decode yB 1 = .ok (.aload_n 0, 1) := by decide +kernel
theorem d2 : decode yB 2 = .ok (.arraylength, 1) := by decide +kernel
theorem d3 : decode yB 3 = .ok (.invokestatic 9, 3) := by decide +kernel
theorem d6 : decode yB 6 = .ok (.aload_n 0, 1) := by decide +kernel
theorem d7 : decode yB 7 = .ok (.iload_n 1, 1) := by decide +kernel
theorem d8 : decode yB 8 = .ok (.baload, 1) := by decide +kernel
theorem d9 : decode yB 9 = .ok (.sipush 255, 3) := by decide +kernel
theorem d12 : decode yB 12 = .ok (.iand, 1) := by decide +kernel
theorem d13 : decode yB 13 = .ok (.i2c, 1) := by decide +kernel
theorem d14 : decode yB 14 = .ok (.ireturn, 1) := by decide +kernel
def site : List Cond := [JO.Str_checkIndex.tab] ++ staticW "java/lang/StringLatin1" 9 JO.Str_checkIndex.yN
def tab : Cond := tabOf yN yB 2 (some .char) site
def P (t : Addr) (V : Cell) (i : Nat) (u : Int32) (fm : Value) (args : Array Value) (s : State) : Prop := args = #[.ref t, .int (Int32.ofNat i)] ∧ XT.Arr .byte t V s ∧ V.slots[i]? = some (.int u) ∧ (StaticIs s "jdk/internal/util/Preconditions" "SIOOBE_FORMATTER" "Ljava/util/function/BiFunction;" fm ∧ fm.isRef = true)
def E (u : Int32) (r : Option Value) (s w : State) : Prop := XT.PureE (some (.int (chr8 u))) r s w
theorem law (l : Launch) (t : Addr) (V : Cell) (i : Nat) (u : Int32) (fm : Value) : Law l yN 2 2 2 27 yB 2 (some .char) site (P t V i u fm) (E u) [] 0 0 := by
  refine Law.of_walk (plainFor_of_name (by decide +kernel)) (by decide +kernel) (by decide +kernel) (by decide) (fun _ _ h => by rw [h.1]; rfl) (fun _ U U' hal hh h => ⟨h.1, h.2.1.mv hal hh, h.2.2.1, h.2.2.2.1.there hal hh, h.2.2.2.2⟩) (fun r U U' V V' h1 hal h2 h => XT.PureE.mv r U U' V V' h1 hal h2 h) ?_
  intro p e s m args below meth c s₁ X0 hexec hbytes hml hret hlk hnm hown hh0 W hP
  obtain ⟨rfl, hV, hu, s1, rf⟩ := hP
  have v31 := hV.2.2.2
  have hi : i < V.slots.size := (Array.getElem?_eq_some_iff.mp hu).1
  have c1 : Steps p.tables e below (s₁.setTop (entryFrame m #[.ref t, .int (Int32.ofNat i)] 2)) (s₁.setTop (mkF m 0 #[.val (.ref t), .val (.int (Int32.ofNat i))] [])) := entry rfl
  have c2 : Steps p.tables e below (s₁.setTop (entryFrame m #[.ref t, .int (Int32.ofNat i)] 2)) (s₁.setTop (mkF m 3 #[.val (.ref t), .val (.int (Int32.ofNat i))] [.int (Int32.ofNat V.slots.size), .int (Int32.ofNat i)])) := c1.trans (by
    refine XS.iloadN X0.here hexec rfl (hb hbytes d0) rfl ?_
    refine XS.aloadN X0.here hexec rfl (hb hbytes d1) rfl rfl ?_
    refine X0.alen hexec (hV.mv X0.warmed.alike hh0) rfl rfl (hb hbytes d2) ?_
    exact Steps.refl _)
  obtain ⟨v3, T3, X3, E3, g3⟩ := X0.callS hexec (JO.Str_checkIndex.law l (Int32.ofNat i) (Int32.ofNat V.slots.size) fm) hown (wks W (staticW "java/lang/StringLatin1" 9 JO.Str_checkIndex.yN)) (wk W JO.Str_checkIndex.tab) (W := 0) (Nat.le_of_ble_eq_true rfl) (Nat.le_of_ble_eq_true rfl) (Nat.le_refl _) (Nat.le_refl _) (g := (mkF m 3 #[.val (.ref t), .val (.int (Int32.ofNat i))] [.int (Int32.ofNat V.slots.size), .int (Int32.ofNat i)])) rfl (by rw [hml]; rfl) c2 (argsL := [.int (Int32.ofNat i), .int (Int32.ofNat V.slots.size)]) (rest := []) rfl rfl (by show 2 * 0 + 0 ≤ _; decide) (hb hbytes d3) (⟨rfl, rf, s1.there X0.warmed.alike hh0, Int32.ofNat_not_neg (by omega), lt32 v31 hi⟩)
  obtain ⟨rfl, q3⟩ := E3
  have hh3 := q3.trans hh0
  have c4 : Steps p.tables e below (s₁.setTop (entryFrame m #[.ref t, .int (Int32.ofNat i)] 2)) (T3.setTop (mkF m 14 #[.val (.ref t), .val (.int (Int32.ofNat i))] [.int (chr8 u)])) := Steps.trans g3 (by
    refine XS.aloadN X3.here hexec rfl (hb hbytes d6) rfl rfl ?_
    refine XS.iloadN X3.here hexec rfl (hb hbytes d7) rfl ?_
    refine X3.aget hexec (hV.mv X3.warmed.alike hh3) rfl hu rfl rfl (hb hbytes d8) ?_
    refine sipushV X3.here hexec rfl 255 (hb hbytes d9) (by decide) ?_
    refine XS.iand X3.here hexec rfl (hb hbytes d12) rfl ?_
    refine i2c X3.here hexec rfl (hb hbytes d13) rfl ?_
    exact Steps.refl _)
  exact ⟨T3, some (.int (chr8 u)), _, _, _, X3, rfl, rfl, rfl, (fun h => by cases h), ⟨rfl, hh3⟩, fun fs hl => c4.trans (X3.ireturnOut hexec hret (narrow_c _) (Or.inr (Or.inr (Or.inr (Or.inl rfl)))) (hb hbytes d14) hl)⟩
end LChA
end StrChars
namespace StrChars.Road
open Jvm Sem ClassFile Op Lib Jvm.Stand Jvm.Free Jvm.Free.XT
open Jvm.Lib.Cold (StaticIs)
theorem consq {a : Array Value} {s : State} {c : Jvm.Cond} {L : List Jvm.Cond} (h0 : c.before a s = true) (h : ∀ w ∈ L, w.before a s = true) : ∀ w ∈ c :: L, w.before a s = true := fun w hw => (List.mem_cons.mp hw).elim (fun e => e ▸ h0) (h w)
/-- the bytes of the chars cs, low before high -/
def wideBytes : List Int32 → List Value
  | [] => []
  | c :: cs => .int (lo8 c) :: .int (hi8 c) :: wideBytes cs
theorem wide_lo (d : Value) : ∀ (cs : List Int32) (j : Nat), j < cs.length → (wideBytes cs).getD (2 * j) d = .int (lo8 (cs.getD j 0))
  | [], j, h => absurd h (Nat.not_lt_zero j)
  | c :: cs, 0, _ => rfl
  | c :: cs, j + 1, h => by
    have q := wide_lo d cs j (by simpa using h)
    rw [show 2 * (j + 1) = 2 * j + 1 + 1 from by omega]
    simpa [wideBytes] using q
theorem wide_hi (d : Value) : ∀ (cs : List Int32) (j : Nat), j < cs.length → (wideBytes cs).getD (2 * j + 1) d = .int (hi8 (cs.getD j 0))
  | [], j, h => absurd h (Nat.not_lt_zero j)
  | c :: cs, 0, _ => rfl
  | c :: cs, j + 1, h => by
    have q := wide_hi d cs j (by simpa using h)
    rw [show 2 * (j + 1) + 1 = 2 * j + 1 + 1 + 1 from by omega]
    simpa [wideBytes] using q
theorem low_at (d : Value) (cs : List Int32) (j : Nat) (h : j < cs.length) : (cs.map fun c => Value.int (lo8 c)).getD j d = .int (lo8 (cs.getD j 0)) := by
  simp [List.getD_eq_getElem?_getD, h]
/-- an array of N2 bytes vs codes the chars cs by the coder cd -/
def CodA (cs : List Int32) (cd N2 : Int32) (vs : List Value) : Prop := (cd = 0 ∧ N2 = Int32.ofNat cs.length ∧ vs = (cs.map fun c => Value.int (lo8 c)) ∧ ∀ c ∈ cs, ¬ 255 < c) ∨ (cd = 1 ∧ N2 = Int32.ofNat (2 * cs.length) ∧ vs = wideBytes cs ∧ ∃ c ∈ cs, 255 < c)
theorem CodA.cod {cs : List Int32} {cd N2 : Int32} {vs : List Value} {V : Cell} (h : CodA cs cd N2 vs) (hn : 2 * cs.length < 2 ^ 31) (hs : V.slots.size = N2.toNatClampNeg) (hv : RoadKit.Has V vs (.int 0)) : Cod cd cs.length (fun j => cs.getD j 0) V := by
  rcases h with ⟨rfl, rfl, rfl, h⟩ | ⟨rfl, rfl, rfl, c, hc, hw⟩
  · rw [n32 (by omega)] at hs
    exact Or.inl ⟨rfl, hs, fun j hj => ⟨by rw [hv j (by omega), low_at _ _ _ hj], by
      have e : cs.getD j 0 = cs[j] := by simp [List.getD_eq_getElem?_getD, hj]
      show ¬ 255 < cs.getD j 0
      rw [e]; exact h _ (List.getElem_mem _)⟩⟩
  · rw [n32 (by omega)] at hs
    obtain ⟨j, hj, rfl⟩ := List.getElem_of_mem hc
    exact Or.inr ⟨rfl, hs, fun j hj => ⟨by rw [hv _ (by omega), wide_lo _ _ _ hj], by rw [hv _ (by omega), wide_hi _ _ _ hj]⟩, j, hj, by
      have e : cs.getD j 0 = cs[j] := by simp [List.getD_eq_getElem?_getD, hj]
      show 255 < cs.getD j 0
      rw [e]; exact hw⟩
/-- an object of exactly java/lang/String, its two fields found: as the laws ask it -/
theorem strObj {Z U : State} {a0 : Array Value} {kI : Nat} (wi : (Jvm.Cond.instantiable ST kI).before a0 Z = true) (al : Z.vm.Alike U.vm) {x : Addr} {v0 c0 : Value} (E : RoadKit.Exa Z U.heap x ST) (V : RoadKit.Fld Z U.heap x ST "value" "[B" v0) (C : RoadKit.Fld Z U.heap x ST "coder" "B" c0) :
    ∃ (D : Cell) (fV fC : Field), Blank ST x D U ∧ Found ST "value" "[B" fV U ∧ Found ST "coder" "B" fC U ∧ D.slots[fV.slot]? = some v0 ∧ D.slots[fC.slot]? = some c0 ∧ RoadKit.slotOf Z ST "value" "[B" = fV.slot ∧ RoadKit.slotOf Z ST "coder" "B" = fC.slot := by
  obtain ⟨D, cfV, kV, iV, fV, hD, gV, stV, knV, obV, asV, slV⟩ := V
  obtain ⟨D', cfC, kC, iC, fC, hD', gC, stC, -, -, asC, slC⟩ := C
  cases hD.symm.trans hD'
  obtain ⟨D2, kD, e1, e2, e3, e4, e5⟩ := E
  cases hD.symm.trans e1
  obtain ⟨c2, k2, i1, i2, i3, -⟩ := Cond.instantiable_spec wi
  cases e2.symm.trans i1
  cases e3.symm.trans i2
  obtain ⟨kU, u1, u2⟩ := al.2.2 _ _ e3
  exact ⟨D, fV, fC, ⟨hD, ⟨knV, fun q hq => by rw [hq] at obV; cases obV⟩, by rw [al.findClass]; exact e2, kU, u1, by rw [u2]; exact i3, by rw [u2]; exact e5 i3⟩, ⟨SBG.found_only al ⟨cfV, kV, iV, gV⟩, stV⟩, ⟨SBG.found_only al ⟨cfC, kC, iC, gC⟩, stC⟩, slV, slC, by simp [RoadKit.slotOf, gV], by simp [RoadKit.slotOf, gC]⟩
theorem sta_is {Z U : State} (al : Z.vm.Alike U.vm) {C n d : String} {v : Value} (S : RoadKit.Sta Z U.heap C n d v) : StaticIs U C n d v := by
  obtain ⟨cfS, iS, kS, fS, st, cS, t1, t2, t3, t4, t5, t6, t7⟩ := S
  exact StaticIs.there (s := { Z with heap := U.heap }) ⟨cfS, iS, kS, fS, st, cS, t1, t2, t3, t4, t5, (fun q => by rw [q] at t6; cases t6), t7⟩ al rfl
end StrChars.Road
namespace StrChars.Road
open Jvm Sem ClassFile Op Lib Jvm.Stand Jvm.Free Jvm.Free.XT
open Jvm.Lib.Cold (StaticIs)
/-- the road's facts of a String, as the laws ask it -/
theorem txt_of {Z U : State} {a0 : Array Value} {kI : Nat} (wi : (Jvm.Cond.instantiable ST kI).before a0 Z = true) (al : Z.vm.Alike U.vm) {x t : Addr} {kb : ClassId} {cs : List Int32} {cd N2 : Int32} {vs : List Value} (E : RoadKit.Exa Z U.heap x ST) (V : RoadKit.Fld Z U.heap x ST "value" "[B" (.ref t)) (C : RoadKit.Fld Z U.heap x ST "coder" "B" (.int cd)) (K : RoadKit.Arv Z U.heap t kb .byte N2 vs (.int 0)) (hc : CodA cs cd N2 vs) (hb : ∀ c ∈ cs, ¬ c < 0 ∧ ¬ (65535 : Int32) < c) (l2 : cs.length ≤ 4000) :
    ∃ A, Txt x t A cd cs.length (fun j => cs.getD j 0) U := by
  obtain ⟨A, K1, K2, K3, K4, K5, K6⟩ := K
  have hcod := hc.cod (by omega) K3 K5
  obtain ⟨D, fV, fC, hB, F1, F2, g1, g2, -, -⟩ := strObj wi al E V C
  exact ⟨A, ⟨_, hB.2.2.1, D, hB.1, rfl, by cases q : D.vm <;> first | rfl | exact absurd q (hB.2.1.2 _)⟩, Has.of hB F1 g1, Has.of hB F2 g2, ⟨K1.1, State.isArrayOf_alike al K1.2.1, K1.2.2, by rcases hcod with ⟨-, q, -⟩ | ⟨-, q, -⟩ <;> omega⟩, hcod, fun j hj => by
    have e : cs.getD j 0 = cs[j] := by simp [List.getD_eq_getElem?_getD, hj]
    show ¬ cs.getD j 0 < 0 ∧ ¬ 65535 < cs.getD j 0
    rw [e]; exact hb _ (List.getElem_mem _)⟩
end StrChars.Road
namespace StrChars
open Jvm Sem ClassFile Op Lib Jvm.Stand Jvm.Free.XT Jvm.Free.ALB Jvm.Free.JM Jvm.Free
open Jvm.Lib.Cold (StaticIs)
namespace ChN
def yN : MethodName := ⟨"java/lang/String", "charAt", "(I)C"⟩
abbrev yB : ByteArray := jdk_42_method_56_code
theorem d0 : decode yB 0 = .ok (.aload_n 0, 1) := by decide +kernel
theorem d1 : decode yB 1 = .ok (.invokevirtual 492, 3) := by decide +kernel
theorem d4 : decode yB 4 = .ok (.ifCond (.eq) 12, 3) := by decide +kernel
theorem d7 : decode yB 7 = .ok (.aload_n 0, 1) := by decide +kernel
theorem d8 : decode yB 8 = .ok (.getfield 9, 3) := by decide +kernel
theorem d11 : decode yB 11 = .ok (.iload_n 1, 1) := by decide +kernel
theorem d12 : decode yB 12 = .ok (.invokestatic 495, 3) := by decide +kernel
theorem d15 : decode yB 15 = .ok (.ireturn, 1) := by decide +kernel
def site : List Cond := [.fieldLink "java/lang/String" 9 "java/lang/String" "value" "[B", IsL.tab, LChA.tab] ++ virtW "java/lang/String" 492 "java/lang/String" IsL.yN IsL.yN ++ staticW "java/lang/String" 495 LChA.yN
def tab : Cond := tabOf yN yB 2 (some .char) site
def P (x t : Addr) (V : Cell) (n : Nat) (f : Nat → Int32) (z : Int32) (fm : Value) (i : Nat) (args : Array Value) (s : State) : Prop := args = #[.ref x, .int (Int32.ofNat i)] ∧ Txt x t V 0 n f s ∧ i < n ∧ StaticIs s "java/lang/String" "COMPACT_STRINGS" "Z" (.int z) ∧ ¬ z = 0 ∧ StaticIs s "jdk/internal/util/Preconditions" "SIOOBE_FORMATTER" "Ljava/util/function/BiFunction;" fm ∧ fm.isRef = true
def E (f : Nat → Int32) (i : Nat) (r : Option Value) (s u : State) : Prop := XT.PureE (some (.int (f i))) r s u
/-- charAt(i) of a Latin-1 String of n chars, i < n: f i -/
theorem law (l : Launch) (x t : Addr) (V : Cell) (n : Nat) (f : Nat → Int32) (z : Int32) (fm : Value) (i : Nat) : Law l yN 2 1 3 40 yB 2 (some .char) site (P x t V n f z fm i) (E f i) [] 0 0 := by
  refine Law.of_walk (plainFor_of_name (by decide +kernel)) (by decide +kernel) (by decide +kernel) (by decide) (fun _ _ h => by rw [h.1]; rfl) (fun _ U U' hal hh h => ⟨h.1, h.2.1.mv hal hh, h.2.2.1, h.2.2.2.1.there hal hh, h.2.2.2.2.1, h.2.2.2.2.2.1.there hal hh, h.2.2.2.2.2.2⟩) (fun r U U' V V' h1 hal h2 h => XT.PureE.mv r U U' V V' h1 hal h2 h) ?_
  intro p e s m args below meth c s₁ X0 hexec hbytes hml hret hlk hnm hown hh0 W hP
  obtain ⟨rfl, hx, hi, s1, hz, s3, rf⟩ := hP
  have v31 := hx.2.2.2.1.2.2.2
  have hr := hx.2.2.2.2.2 i hi
  have hx0 := hx.mv X0.warmed.alike hh0
  have c1 : Steps p.tables e below (s₁.setTop (entryFrame m #[.ref x, .int (Int32.ofNat i)] 2)) (s₁.setTop (mkF m 1 #[.val (.ref x), .val (.int (Int32.ofNat i))] [.ref x])) := Steps.trans (entry rfl) (by
    show Steps p.tables e below (s₁.setTop (mkF m 0 #[.val (.ref x), .val (.int (Int32.ofNat i))] [])) _
    refine XS.aloadN X0.here hexec rfl (hb hbytes d0) rfl rfl ?_
    exact Steps.refl _)
  obtain ⟨v2, T2, X2, E2, g2⟩ := X0.callV hexec (IsL.law l x 0 z) hown (wks W (virtW "java/lang/String" 492 "java/lang/String" IsL.yN IsL.yN)) rfl (by decide) (wk W IsL.tab) (W := 0) (Nat.le_of_ble_eq_true rfl) (Nat.le_of_ble_eq_true rfl) (Nat.le_refl _) (Nat.le_refl _) (hx0.1.fc X0.warmed.alike) hx0.1.is (g := (mkF m 1 #[.val (.ref x), .val (.int (Int32.ofNat i))] [.ref x])) rfl (by rw [hml]; rfl) c1 (argsL := []) (rest := []) rfl rfl (by show 2 * 0 + 0 ≤ _; decide) (hb hbytes d1) (⟨rfl, hx0.2.2.1, hx.2.2.2.2.1.cd, s1.there X0.warmed.alike hh0, hz⟩)
  obtain ⟨rfl, q2⟩ := E2
  have hh2 := q2.trans hh0
  have hx2 := hx.mv X2.warmed.alike hh2
  obtain ⟨-, k1, k2⟩ | ⟨k0, -⟩ := hx.2.2.2.2.1
  · have c3 : Steps p.tables e below (s₁.setTop (entryFrame m #[.ref x, .int (Int32.ofNat i)] 2)) (T2.setTop (mkF m 8 #[.val (.ref x), .val (.int (Int32.ofNat i))] [.ref x])) := Steps.trans g2 (by
      refine XS.ifNo X2.here hexec rfl (hb hbytes d4) rfl (i0_eq_f (by decide)) ?_
      refine XS.aloadN X2.here hexec rfl (hb hbytes d7) rfl rfl ?_
      exact Steps.refl _)
    obtain ⟨T4, X4, q4, st4⟩ := X2.hget hexec hown (wk W (.fieldLink "java/lang/String" 9 "java/lang/String" "value" "[B")) hx2.2.1 (g := (mkF m 8 #[.val (.ref x), .val (.int (Int32.ofNat i))] [.ref x])) rfl (rest := []) rfl (hb hbytes d8)
    have hh4 := q4.trans hh2
    have c5 : Steps p.tables e below (s₁.setTop (entryFrame m #[.ref x, .int (Int32.ofNat i)] 2)) (T4.setTop (mkF m 12 #[.val (.ref x), .val (.int (Int32.ofNat i))] [.int (Int32.ofNat i), .ref t])) := (c3.trans (st4 _ (Steps.refl _))).trans (by
      refine XS.iloadN X4.here hexec rfl (hb hbytes d11) rfl ?_
      exact Steps.refl _)
    obtain ⟨v6, T6, X6, E6, g6⟩ := X4.callS hexec (LChA.law l t V i (lo8 (f i)) fm) hown (wks W (staticW "java/lang/String" 495 LChA.yN)) (wk W LChA.tab) (W := 0) (Nat.le_of_ble_eq_true rfl) (Nat.le_of_ble_eq_true rfl) (Nat.le_refl _) (Nat.le_refl _) (g := (mkF m 12 #[.val (.ref x), .val (.int (Int32.ofNat i))] [.int (Int32.ofNat i), .ref t])) rfl (by rw [hml]; rfl) c5 (argsL := [.ref t, .int (Int32.ofNat i)]) (rest := []) rfl rfl (by show 2 * 0 + 0 ≤ _; decide) (hb hbytes d12) (⟨rfl, hx.2.2.2.1.mv X4.warmed.alike hh4, (k2 i hi).1, s3.there X4.warmed.alike hh4, rf⟩)
    obtain ⟨rfl, q6⟩ := E6
    rw [chr8_lo8 hr.1 (k2 i hi).2] at g6
    exact ⟨T6, some (.int (f i)), _, _, _, X6, rfl, rfl, rfl, (fun h => by cases h), ⟨rfl, q6.trans hh4⟩, fun fs hl => Steps.trans g6 (X6.ireturnOut hexec hret (narrow_ch hr.1 hr.2) (Or.inr (Or.inr (Or.inr (Or.inl rfl)))) (hb hbytes d15) hl)⟩
  · exact absurd k0 (by decide)
theorem pays {l : Launch} {R : Room} {p : Program} {e : Env} {below : List Frame} {s : State} {sargs : Array Value} {len W : Nat} (x t : Addr) (V : Cell) (n : Nat) (f : Nat → Int32) (z : Int32) (fm : Value) (i : Nat) (htab : tab.before sargs s = true) (hfr : 4 ≤ R.frames) (hlo : W + 53 ≤ R.locals) :
    Back l R p e below s sargs yN len W (fun A₁ a₁ => A₁.cells + 0 ≤ R.cells ∧ A₁.slots + 0 ≤ R.slots ∧ P x t V n f z fm i a₁ A₁.U) (fun A₁ _ v₁ B₁ => E f i v₁ A₁.U B₁.U ∧ B₁.locs = A₁.locs ++ [] ∧ B₁.cells = A₁.cells + 0 ∧ B₁.slots = A₁.slots + 0) :=
  (law l x t V n f z fm i).pays htab hfr (by omega)
end ChN
end StrChars
namespace StrChars.Road
open Jvm Sem ClassFile Op Lib Jvm.Stand Jvm.Free Jvm.Free.XT
open Jvm.Lib.Cold (StaticIs)
/-- the words of String.charAt(int), the Latin-1 road alone -/
abbrev wordsChN : List Jvm.Cond := [.code ChN.yN ChN.yB 2 (some .char), .initialized ST, .fieldLink ST 9 ST "value" "[B", .fieldLink ST 38 ST "COMPACT_STRINGS" "Z", .fieldLink ST 15 ST "coder" "B", .code IsL.yN IsL.yB 1 (some .boolean), .methodLink ST 492 IsL.yN, .declares IsL.yN, .selects ST IsL.yN IsL.yN, .instanceMethod IsL.yN,
  .methodLink ST 495 LChA.yN, .static LChA.yN, .code LChA.yN LChA.yB 2 (some .char), .initialized "java/lang/StringLatin1", .methodLink "java/lang/StringLatin1" 9 JO.Str_checkIndex.yN, .static JO.Str_checkIndex.yN, .code JO.Str_checkIndex.yN JO.Str_checkIndex.yB 2 none,
  .fieldLink ST 1053 "jdk/internal/util/Preconditions" "SIOOBE_FORMATTER" "Ljava/util/function/BiFunction;", .methodLink ST 1059 JC.PreCheck.yN, .static JC.PreCheck.yN, .code JC.PreCheck.yN JC.PreCheck.yB 3 (some .int), .initialized "jdk/internal/util/Preconditions"]
theorem tabChN_of {a : Array Value} {s : State} (h : ∀ w ∈ wordsChN, w.before a s = true) : ChN.tab.before a s = true := by
  have hp : JC.PreCheck.tab.before a s = true := unparts (wk h (.code JC.PreCheck.yN JC.PreCheck.yB 3 (some .int))) (wks h (.initialized JC.PreCheck.yN.cls :: JC.PreCheck.site))
  have qk := consq hp h
  have hk : JO.Str_checkIndex.tab.before a s = true := unparts (wk qk (.code JO.Str_checkIndex.yN JO.Str_checkIndex.yB 2 none)) (wks qk (.initialized JO.Str_checkIndex.yN.cls :: JO.Str_checkIndex.site))
  have ql := consq hk h
  have hl : LChA.tab.before a s = true := unparts (wk ql (.code LChA.yN LChA.yB 2 (some .char))) (wks ql (.initialized LChA.yN.cls :: LChA.site))
  have hi : IsL.tab.before a s = true := unparts (wk h (.code IsL.yN IsL.yB 1 (some .boolean))) (wks h (.initialized IsL.yN.cls :: IsL.site))
  have q := consq hi (consq hl h)
  exact unparts (wk q (.code ChN.yN ChN.yB 2 (some .char))) (wks q (.initialized ChN.yN.cls :: ChN.site))
theorem movedChN {Z s : State} {a0 args : Array Value} (hZ : Z.Warmed39 s.vm) (hw : ∀ d ∈ wordsChN, d.before a0 Z = true) : ∀ d ∈ wordsChN, d.before args s = true := fun d hd => by
  have t : ∀ d ∈ wordsChN, (d.onTables && d.keepsFace) = true := by decide +kernel
  exact RoadKit.mv hZ (hw d hd) (t d hd)
/-- **charAt(i) OF A LATIN-1 STRING**, i < n: the char -/
theorem chN {p : Program} {l : Launch} {e : Env} {R : Room} {s : State} {args : Array Value} {below : List Frame} {len W : Nat} {Z : State} {a0 : Array Value} {h : Heap} (hZ : Z.Warmed39 s.vm) (hw : ∀ d ∈ wordsChN, d.before a0 Z = true) {kI : Nat} (wi : (Jvm.Cond.instantiable ST kI).before a0 Z = true)
    {x t : Addr} {kb : ClassId} {cs : List Int32} {N2 z : Int32} {vs : List Value} {fm : Value} {i : Nat} {j : Int32} (E : RoadKit.Exa Z h x ST) (V : RoadKit.Fld Z h x ST "value" "[B" (.ref t)) (C : RoadKit.Fld Z h x ST "coder" "B" (.int 0)) (K : RoadKit.Arv Z h t kb .byte N2 vs (.int 0)) (hc : CodA cs 0 N2 vs) (hb : ∀ c ∈ cs, ¬ c < 0 ∧ ¬ (65535 : Int32) < c)
    (S : RoadKit.Sta Z h ST "COMPACT_STRINGS" "Z" (.int z)) (hz : ¬ z = 0) (F : RoadKit.Sta Z h "jdk/internal/util/Preconditions" "SIOOBE_FORMATTER" "Ljava/util/function/BiFunction;" fm) (rf : fm.isRef = true) (l2 : cs.length ≤ 4000) (hi : i < cs.length) (hj : j = Int32.ofNat i) (hfr : 4 ≤ R.frames) (hlo : W + 53 ≤ R.locals) :
    Back l R p e below s args (⟨"java/lang/String", "charAt", "(I)C"⟩ : MethodName) len W (fun P a => a = #[.ref x, .int j] ∧ P.U.heap = h ∧ P.cells + 0 ≤ R.cells ∧ P.slots + 0 ≤ R.slots)
      (fun P _ v B => ∃ L, (v = some (.int (cs.getD i 0)) ∧ L = [] ∧ B.U.heap = h) ∧ B.locs = P.locs ++ L ∧ B.cells = P.cells + 0 ∧ B.slots = P.slots + 0) := by
  subst hj
  intro m meth c P g ig mk a X hg hsize hdg hW hn hp'
  obtain ⟨rfl, rfl, r1, r2⟩ := hp'
  have al : Z.vm.Alike P.U.vm := hZ.alike.trans X.warmed.alike
  obtain ⟨A, hx⟩ := txt_of wi al E V C K hc hb l2
  obtain ⟨v, B, X', ⟨⟨hv, hh⟩, hl, hk, hs⟩, st⟩ := ChN.pays x t A cs.length (fun j => cs.getD j 0) z fm i (tabChN_of (movedChN hZ hw)) hfr hlo m meth c P g ig mk _ X hg hsize hdg hW hn ⟨r1, r2, rfl, hx, hi, sta_is al S, hz, sta_is al F, rf⟩
  exact ⟨v, B, X', ⟨[], ⟨hv, rfl, hh⟩, hl, hk, hs⟩, st⟩
/-- what backV says of its String, as the contracts of this text ask it: cs's low bytes, coder 0 -/
theorem codOf {cs : List Int32} {n : Nat} (hn : cs.length = n) (hb : ∀ c ∈ cs, ¬ 255 < c) : CodA cs 0 (Int32.ofNat n) ((cs.map lo8).map Value.int) := Or.inl ⟨rfl, by rw [hn], by simp [List.map_map, Function.comp_def], hb⟩
end StrChars.Road
end Jvm.Pilot.@@N@@

namespace Jvm.Pilot.@@N@@
open Jvm Jvm.ClassFile Sem Op Lib Jvm.Free Jvm.Stand Jvm.LawKit Jvm.RoadKit Bundle Jvm.Pilot.@@N@@.Jvm.D
/-- from the point (T, g) the body comes to its end, with what P says of value, heap and places -/
def own_E (p : Program) (e : Env) (below : List Frame) (s : State) (k n : Nat) (P : Option Value → Heap → List Loc → Prop) (T : State) (g : JFrame) : Prop :=
  ∃ s₂ o, Steps p.tables e below (T.setTop g) s₂ ∧ s₂.status = .running ∧ Ended s₂ below o ∧ ∃ v L, o = .returned v ∧ P v s₂.heap L ∧ FrameEnd s o s₂ L k n
/-- what a law leaves: true, and nothing old written -/
def own_L (n0 : Nat) (v : Option Value) (h : Heap) (L : List Loc) : Prop := v = some (.int (1 : Int32)) ∧ Fr n0 L
section Own
variable {p : Program} {l : Launch} {e : Env} {R : Room} {s : State} {m : MethodId} {args : Array Value} {below : List Frame} {meth : Method} {c : Code} {T T' : State} {locs : List Loc} {cells slots : Nat} {k n : Nat} {P : Option Value → Heap → List Loc → Prop} {g g' : JFrame}
theorem own_st (h : ∀ t, Steps p.tables e below (T'.setTop g') t → Steps p.tables e below (T.setTop g) t) (E : own_E p e below s k n P T' g') : own_E p e below s k n P T g := by
  obtain ⟨s₂, o, h1, r⟩ := E; exact ⟨s₂, o, h _ h1, r⟩
theorem own_end (X : Stand p l e R s m args below meth c T locs cells slots) {v : Option Value} (hv : meth.sig.returnType = none → v = none) (hlk : meth.locks = false) (hk : cells ≤ k) (hn : slots ≤ n) (hP : P v T.heap locs)
    (h : ∀ fs : List Frame, (∀ (f : JFrame) (acts : List Action), f.method = m → f.locked = none → f.entered = [] → (doReturn e (T.setTop f) acts v).1 = T.setFrames fs) → Steps p.tables e below (T.setTop g) (T.setFrames fs)) : own_E p e below s k n P T g := by
  obtain ⟨fs, hr, hrun, hended, hW, hsame⟩ := X.leave (v := v) hv hlk
  exact ⟨_, _, h fs hr, hrun, hended, _, _, rfl, hP, ⟨_, rfl⟩, hW, hsame.mono hk hn⟩
theorem own_retV (X : Stand p l e R s m args below meth c T locs cells slots) (hx : p.tables.exec = Jvm.exec) (hret : meth.sig.returnType = none) (hlk : meth.locks = false) {pc : Nat} {Ls : Array Slot} (hd : decode c.code pc = .ok (.return_, 1)) (hk : cells ≤ k) (hn : slots ≤ n) (hP : P none T.heap locs) : own_E p e below s k n P T (mkF m pc Ls []) :=
  own_end X (fun _ => rfl) hlk hk hn hP fun _ hr => X.returnOut hx hret hd hr
theorem own_retN (X : Stand p l e R s m args below meth c T locs cells slots) (hx : p.tables.exec = Jvm.exec) {t : FieldType} (hret : meth.sig.returnType = some t) (ht : t = .boolean ∨ t = .byte ∨ t = .char ∨ t = .short) (hlk : meth.locks = false) {pc : Nat} {Ls : Array Slot} {z : Int32} {rest : List Value} (hd : decode c.code pc = .ok (.ireturn, 1)) (hk : cells ≤ k) (hn : slots ≤ n) (hP : P (some (.int (nar t z))) T.heap locs) : own_E p e below s k n P T (mkF m pc Ls (.int z :: rest)) :=
  own_end X (fun h => by rw [hret] at h; cases h) hlk hk hn hP fun _ hr => retN X hx hret ht hd hr
theorem own_retI (X : Stand p l e R s m args below meth c T locs cells slots) (hx : p.tables.exec = Jvm.exec) (hret : meth.sig.returnType = some .int) (hlk : meth.locks = false) {pc : Nat} {Ls : Array Slot} {z : Int32} {rest : List Value} (hd : decode c.code pc = .ok (.ireturn, 1)) (hk : cells ≤ k) (hn : slots ≤ n) (hP : P (some (.int z)) T.heap locs) : own_E p e below s k n P T (mkF m pc Ls (.int z :: rest)) :=
  own_end X (fun h => by rw [hret] at h; cases h) hlk hk hn hP fun _ hr => retOut X hx hret rfl (Or.inl ⟨rfl, Or.inl rfl, z, rfl⟩) hd hr
theorem own_retL (X : Stand p l e R s m args below meth c T locs cells slots) (hx : p.tables.exec = Jvm.exec) (hret : meth.sig.returnType = some .long) (hlk : meth.locks = false) {pc : Nat} {Ls : Array Slot} {z : Int64} {rest : List Value} (hd : decode c.code pc = .ok (.lreturn, 1)) (hk : cells ≤ k) (hn : slots ≤ n) (hP : P (some (.long z)) T.heap locs) : own_E p e below s k n P T (mkF m pc Ls (.long z :: rest)) :=
  own_end X (fun h => by rw [hret] at h; cases h) hlk hk hn hP fun _ hr => retOut X hx hret rfl (Or.inr (Or.inl ⟨rfl, rfl, z, rfl⟩)) hd hr
theorem own_narR {t : FieldType} {v : Value} (ht : t.isReference = true) : narrow t v = v := by cases t <;> first | (cases ht; done) | (cases v <;> rfl)
theorem own_fitR {t : FieldType} {v : Value} (h : v.isRef = true) (ht : t.isReference = true) : fits t v = true := by cases t <;> first | (cases ht; done) | (cases v <;> first | (cases h; done) | rfl)
theorem own_retA (X : Stand p l e R s m args below meth c T locs cells slots) (hx : p.tables.exec = Jvm.exec) {t : FieldType} (hret : meth.sig.returnType = some t) (ht : t.isReference = true) {w : Value} (hw : w.isRef = true) (hlk : meth.locks = false) {pc : Nat} {Ls : Array Slot} {rest : List Value} (hd : decode c.code pc = .ok (.areturn, 1)) (hk : cells ≤ k) (hn : slots ≤ n) (hP : P (some w) T.heap locs) : own_E p e below s k n P T (mkF m pc Ls (w :: rest)) :=
  own_end X (fun h => by rw [hret] at h; cases h) hlk hk hn hP fun _ hr => retOut X hx hret (own_narR ht) (Or.inr (Or.inr (Or.inr (Or.inr ⟨rfl, ht, hw⟩)))) hd hr
end Own
/-! the calls, their figures said plainly -/
section OwnCalls
variable {p : Program} {l : Launch} {e : Env} {R : Room} {s : State} {m : MethodId} {args : Array Value} {below : List Frame} {meth : Method} {c : Code} {T : State} {locs : List Loc} {cells slots : Nat} {W : Nat} {rm : Room} {as' : Array Value} {Q : Option Value → Heap → List Loc → Prop} {h : Heap} {c' s' : Nat}
theorem own_callS (X : Stand p l e R s m args below meth c T locs cells slots) (hx : p.tables.exec = Jvm.exec) {own : String} {index : Nat} {y : MethodName} {bytes : ByteArray} {maxL : Nat} {ret : Option FieldType} (hown : s.vm.findClass own = some m.cls) (hlink : (Cond.methodLink own index y).before args s = true) (hstat : (Cond.static y).before args s = true) (hinit : (Cond.initialized y.cls).before args s = true) (hcode : (Cond.code y bytes maxL ret).before args s = true) (hy : y.cls ≠ "java/lang/invoke/MethodHandle" ∧ y.cls ≠ "java/lang/invoke/VarHandle") (hK : Back l R p e below s args y 3 W (fun A a => a = as' ∧ A.U.heap = h ∧ A.cells + rm.cells ≤ R.cells ∧ A.slots + rm.slots ≤ R.slots) (fun A _ v B => ∃ L, Q v B.U.heap L ∧ B.locs = A.locs ++ L ∧ B.cells = A.cells + rm.cells ∧ B.slots = A.slots + rm.slots)) {g : JFrame} (hg : g.method = m) (hsize : g.locals.size = c.maxLocals) {argsL rest : List Value} (hlen : ∀ sig, parseMethodDescriptor y.desc = some sig → argsL.length = sig.parameters.length) (hstack : g.stack = argsL.reverse ++ rest) (hW : 2 * g.monitorRoom + (rest.map fun v => v.category).sum ≤ W) (hdg : decode c.code g.pc = .ok (.invokestatic index, 3)) (ha : argsL.toArray = as') (eT : T.heap = h) (hc : cells + rm.cells ≤ R.cells) (hs : slots + rm.slots ≤ R.slots) (h1 : cells + rm.cells = c') (h2 : slots + rm.slots = s') :
    ∃ (v : Option Value) (T' : State) (L : List Loc), Stand p l e R s m args below meth c T' (locs ++ L) c' s' ∧ Q v T'.heap L ∧ ∀ t, Steps p.tables e below (T'.setTop { g with pc := g.pc + 3, stack := v.toList ++ rest }) t → Steps p.tables e below (T.setTop g) t := by
  subst h1 h2
  obtain ⟨v, vm₁, ⟨T', L', k', n'⟩, -, X', ⟨L, hQ, h3, h4, h5⟩, st⟩ := Jvm.LawKit.callS X hx hown hlink hstat hinit hcode hy hK hg hsize hlen hstack hW hdg (fun _ _ => ⟨ha, eT, hc, hs⟩)
  dsimp only [Pt.U, Pt.locs, Pt.cells, Pt.slots] at X' h3 h4 h5 st hQ
  subst h3 h4 h5
  exact ⟨v, T', L, X', hQ, st⟩
theorem own_callI (X : Stand p l e R s m args below meth c T locs cells slots) (hx : p.tables.exec = Jvm.exec) {own : String} {index : Nat} {y : MethodName} {bytes : ByteArray} {maxL : Nat} (hy1 : y.name = "<init>") (hown : s.vm.findClass own = some m.cls) (hlink : (Cond.methodLink own index y).before args s = true) (hinst : (Cond.instanceMethod y).before args s = true) (hcode : (Cond.code y bytes maxL none).before args s = true) (hy : y.cls ≠ "java/lang/invoke/MethodHandle" ∧ y.cls ≠ "java/lang/invoke/VarHandle") (hK : Back l R p e below s args y 3 W (fun A a => a = as' ∧ A.U.heap = h ∧ A.cells + rm.cells ≤ R.cells ∧ A.slots + rm.slots ≤ R.slots) (fun A _ v B => ∃ L, Q v B.U.heap L ∧ B.locs = A.locs ++ L ∧ B.cells = A.cells + rm.cells ∧ B.slots = A.slots + rm.slots)) {g : JFrame} (hg : g.method = m) (hsize : g.locals.size = c.maxLocals) {a : Addr} {argsL rest : List Value} (hlen : ∀ sig, parseMethodDescriptor y.desc = some sig → argsL.length = sig.parameters.length) (hstack : g.stack = argsL.reverse ++ .ref a :: rest) (hW : 2 * g.monitorRoom + (rest.map fun v => v.category).sum ≤ W) (hdg : decode c.code g.pc = .ok (.invokespecial index, 3)) (ha : (.ref a :: argsL).toArray = as') (eT : T.heap = h) (hc : cells + rm.cells ≤ R.cells) (hs : slots + rm.slots ≤ R.slots) (h1 : cells + rm.cells = c') (h2 : slots + rm.slots = s') :
    ∃ (v : Option Value) (T' : State) (L : List Loc), Stand p l e R s m args below meth c T' (locs ++ L) c' s' ∧ Q v T'.heap L ∧ ∀ t, Steps p.tables e below (T'.setTop { g with pc := g.pc + 3, stack := v.toList ++ rest }) t → Steps p.tables e below (T.setTop g) t := by
  subst h1 h2
  obtain ⟨v, vm₁, ⟨T', L', k', n'⟩, -, X', ⟨L, hQ, h3, h4, h5⟩, st⟩ := X.specialBack hx hy1 hown hlink hinst hcode hy hK hg hsize (Steps.refl _) hlen hstack hW hdg (fun _ _ => ⟨ha, eT, hc, hs⟩)
  dsimp only [Pt.U, Pt.locs, Pt.cells, Pt.slots] at X' h3 h4 h5 st hQ
  subst h3 h4 h5
  exact ⟨v, T', L, X', hQ, fun t k => st.trans k⟩
theorem own_callP (X : Stand p l e R s m args below meth c T locs cells slots) (hx : p.tables.exec = Jvm.exec) {own : String} {index : Nat} {y : MethodName} {bytes : ByteArray} {maxL : Nat} {ret : Option FieldType} (hown : s.vm.findClass own = some m.cls) (hlink : (Cond.methodLink own index y).before args s = true) (hinst : (Cond.instanceMethod y).before args s = true) (hsel : (Cond.selects y.cls y y).before args s = true) (hpriv : s.PrivateAt y) (hcode : (Cond.code y bytes maxL ret).before args s = true) (hy : y.cls ≠ "java/lang/invoke/MethodHandle" ∧ y.cls ≠ "java/lang/invoke/VarHandle") (hK : Back l R p e below s args y 3 W (fun A a => a = as' ∧ A.U.heap = h ∧ A.cells + rm.cells ≤ R.cells ∧ A.slots + rm.slots ≤ R.slots) (fun A _ v B => ∃ L, Q v B.U.heap L ∧ B.locs = A.locs ++ L ∧ B.cells = A.cells + rm.cells ∧ B.slots = A.slots + rm.slots)) {g : JFrame} (hg : g.method = m) (hsize : g.locals.size = c.maxLocals) {a : Addr} {cell : Cell} (hcell : T.heap[a]? = some cell) (hobj : ∀ q, cell.vm ≠ .statics q) {argsL rest : List Value} (hlen : ∀ sig, parseMethodDescriptor y.desc = some sig → argsL.length = sig.parameters.length) (hstack : g.stack = argsL.reverse ++ .ref a :: rest) (hW : 2 * g.monitorRoom + (rest.map fun v => v.category).sum ≤ W) (hdg : decode c.code g.pc = .ok (.invokevirtual index, 3)) (ha : (.ref a :: argsL).toArray = as') (eT : T.heap = h) (hc : cells + rm.cells ≤ R.cells) (hs : slots + rm.slots ≤ R.slots) (h1 : cells + rm.cells = c') (h2 : slots + rm.slots = s') :
    ∃ (v : Option Value) (T' : State) (L : List Loc), Stand p l e R s m args below meth c T' (locs ++ L) c' s' ∧ Q v T'.heap L ∧ ∀ t, Steps p.tables e below (T'.setTop { g with pc := g.pc + 3, stack := v.toList ++ rest }) t → Steps p.tables e below (T.setTop g) t := by
  subst h1 h2
  obtain ⟨v, vm₁, ⟨T', L', k', n'⟩, -, X', ⟨L, hQ, h3, h4, h5⟩, st⟩ := X.privateBack hx hown hlink hinst hsel hpriv hcode hy hK hg hsize (Steps.refl _) hcell hobj hlen hstack hW hdg (fun _ _ => ⟨ha, eT, hc, hs⟩)
  dsimp only [Pt.U, Pt.locs, Pt.cells, Pt.slots] at X' h3 h4 h5 st hQ
  subst h3 h4 h5
  exact ⟨v, T', L, X', hQ, fun t k => st.trans k⟩
theorem own_callV (X : Stand p l e R s m args below meth c T locs cells slots) (hx : p.tables.exec = Jvm.exec) {own : String} {index : Nat} {C : String} {y z : MethodName} (hown : s.vm.findClass own = some m.cls) (hlink : (Cond.methodLink own index y).before args s = true) (hdecl : (Cond.declares y).before args s = true) (hnf : NotFace s y) (hsel : (Cond.selects C y z).before args s = true) (hinst : (Cond.instanceMethod z).before args s = true) (hy : y.cls ≠ "java/lang/invoke/MethodHandle" ∧ y.cls ≠ "java/lang/invoke/VarHandle") (hK : Back l R p e below s args z 3 W (fun A a => a = as' ∧ A.U.heap = h ∧ A.cells + rm.cells ≤ R.cells ∧ A.slots + rm.slots ≤ R.slots) (fun A _ v B => ∃ L, Q v B.U.heap L ∧ B.locs = A.locs ++ L ∧ B.cells = A.cells + rm.cells ∧ B.slots = A.slots + rm.slots)) {b : Addr} {cB : ClassId} (hcB : s.vm.findClass C = some cB) (hrecv : IsOf cB T b) {g : JFrame} (hg : g.method = m) (hsize : g.locals.size = c.maxLocals) {argsL rest : List Value} (hlen : ∀ sig, parseMethodDescriptor y.desc = some sig → argsL.length = sig.parameters.length) (hstack : g.stack = argsL.reverse ++ .ref b :: rest) (hW : 2 * g.monitorRoom + (rest.map fun v => v.category).sum ≤ W) (hdg : decode c.code g.pc = .ok (.invokevirtual index, 3)) (ha : (.ref b :: argsL).toArray = as') (eT : T.heap = h) (hc : cells + rm.cells ≤ R.cells) (hs : slots + rm.slots ≤ R.slots) (h1 : cells + rm.cells = c') (h2 : slots + rm.slots = s') :
    ∃ (v : Option Value) (T' : State) (L : List Loc), Stand p l e R s m args below meth c T' (locs ++ L) c' s' ∧ Q v T'.heap L ∧ ∀ t, Steps p.tables e below (T'.setTop { g with pc := g.pc + 3, stack := v.toList ++ rest }) t → Steps p.tables e below (T.setTop g) t := by
  subst h1 h2
  obtain ⟨v, vm₁, ⟨T', L', k', n'⟩, -, X', ⟨L, hQ, h3, h4, h5⟩, st⟩ := X.virtualBack hx hown hlink hdecl hnf hsel hinst hy hK hcB hrecv hg hsize (Steps.refl _) hlen hstack hW hdg (fun _ _ => ⟨ha, eT, hc, hs⟩)
  dsimp only [Pt.U, Pt.locs, Pt.cells, Pt.slots] at X' h3 h4 h5 st hQ
  subst h3 h4 h5
  exact ⟨v, T', L, X', hQ, fun t k => st.trans k⟩
theorem own_callF (X : Stand p l e R s m args below meth c T locs cells slots) (hx : p.tables.exec = Jvm.exec) {own : String} {index count : Nat} {C : String} {xi y : MethodName} (hown : s.vm.findClass own = some m.cls) (hlink : (Cond.methodLink own index xi).before args s = true) (hdecl : (Cond.declares xi).before args s = true) (hface : (Cond.interfaceMethod xi.cls xi.cls xi.name xi.desc).before args s = true) (hsel : (Cond.selects C xi y).before args s = true) (hinst : (Cond.instanceMethod y).before args s = true) (hpub : (Cond.publicMethod y).before args s = true) (hunh : (Cond.unhidden C xi.name xi.desc).before args s = true) (hcast : (Cond.castable C xi.cls).before args s = true) (hy : xi.cls ≠ "java/lang/invoke/MethodHandle" ∧ xi.cls ≠ "java/lang/invoke/VarHandle") (hK : Back l R p e below s args y 5 W (fun A a => a = as' ∧ A.U.heap = h ∧ A.cells + rm.cells ≤ R.cells ∧ A.slots + rm.slots ≤ R.slots) (fun A _ v B => ∃ L, Q v B.U.heap L ∧ B.locs = A.locs ++ L ∧ B.cells = A.cells + rm.cells ∧ B.slots = A.slots + rm.slots)) {b : Addr} {cB : ClassId} {kB : Class} (hcB : s.vm.findClass C = some cB) (hkB : s.vm.classes[cB]? = some kB) (hrecv : IsOf cB T b) {g : JFrame} (hg : g.method = m) (hsize : g.locals.size = c.maxLocals) {argsL rest : List Value} (hlen : ∀ sig, parseMethodDescriptor xi.desc = some sig → argsL.length = sig.parameters.length) (hstack : g.stack = argsL.reverse ++ .ref b :: rest) (hW : 2 * g.monitorRoom + (rest.map fun v => v.category).sum ≤ W) (hdg : decode c.code g.pc = .ok (.invokeinterface index count, 5)) (ha : (.ref b :: argsL).toArray = as') (eT : T.heap = h) (hc : cells + rm.cells ≤ R.cells) (hs : slots + rm.slots ≤ R.slots) (h1 : cells + rm.cells = c') (h2 : slots + rm.slots = s') :
    ∃ (v : Option Value) (T' : State) (L : List Loc), Stand p l e R s m args below meth c T' (locs ++ L) c' s' ∧ Q v T'.heap L ∧ ∀ t, Steps p.tables e below (T'.setTop { g with pc := g.pc + 5, stack := v.toList ++ rest }) t → Steps p.tables e below (T.setTop g) t := by
  subst h1 h2
  obtain ⟨v, vm₁, ⟨T', L', k', n'⟩, -, X', ⟨L, hQ, h3, h4, h5⟩, st⟩ := X.interfaceBack hx hown hlink hdecl hface hsel hinst hpub hunh hcast hy hK hcB hkB hrecv hg hsize (Steps.refl _) hlen hstack hW hdg (fun _ _ => ⟨ha, eT, hc, hs⟩)
  dsimp only [Pt.U, Pt.locs, Pt.cells, Pt.slots] at X' h3 h4 h5 st hQ
  subst h3 h4 h5
  exact ⟨v, T', L, X', hQ, fun t k => st.trans k⟩
end OwnCalls
theorem own_z {Z : State} {n0 : Nat} {h : Heap} (O : Old Z n0 h) : n0 ≤ h.size := O.1 ▸ O.2.1
theorem own_oldlt {Z : State} {n0 : Nat} {h : Heap} {a : Addr} (O : Old Z n0 h) (q : a < Z.heap.size) : a < h.size := Nat.lt_of_lt_of_le q O.2.1
theorem own_ext {h h' : Heap} (K : Keep h h' []) : Ext h h' := ⟨K.1, fun x c q => K.2.1 x c q nin0⟩
theorem own_fld0 {args : Array Value} {Z : State} {t : Term} {a : Addr} {C n d : String} {k : Int32} (ev : t.eval args Z none [] Z = some (.ref a)) (h : (Jvm.Cond.eq (Term.field t C n d) (Term.int k)).value args Z none Z [] = some true) : Fld Z Z.heap a C n d (.int k) := by
  cases hv : Z.fieldOf? a C n d with
  | none => simp [Cond.value, Term.eval, ev, hv] at h
  | some x => cases x <;> simp [Cond.value, Term.eval, ev, hv] at h; subst h; exact Fld.start hv
theorem own_nz {args : Array Value} {Z : State} {t : Term} {cz : Int32} (ev : t.eval args Z none [] Z = some (.int cz)) (h : (Jvm.Cond.not (Jvm.Cond.eq t (Term.int (0 : Int32)))).value args Z none Z [] = some true) : ¬ cz = (0 : Int32) := by
  simpa [Cond.value, ev, Term.eval] using h
theorem own_neF {Z : State} {h : Heap} {a b : Addr} {C n d : String} {x y : Value} (F : Fld Z h a C n d x) (G : Fld Z h b C n d y) (q : x ≠ y) : a ≠ b := fun e => by
  subst e
  obtain ⟨c1, cf1, k1, i1, f1, h1, h2, -, -, -, -, h7⟩ := F
  obtain ⟨c2, cf2, k2, i2, f2, g1, g2, -, -, -, -, g7⟩ := G
  cases h1.symm.trans g1
  cases h2.symm.trans g2
  exact q (Option.some.inj (h7.symm.trans g7))
theorem own_rem (x y : Int32) (d : Int) (hd : 0 < d) (hy : y.toInt = d) : 0 ≤ ((x &&& 2147483647) % y).toInt ∧ ((x &&& 2147483647) % y).toInt < d := by
  have h1 := (c_andS x 2147483647).2.2 (by decide)
  have h2 := (c_irem (x &&& 2147483647) y d hy).1 h1
  rw [h2]; exact ⟨Int.emod_nonneg _ (by omega), Int.emod_lt_of_pos _ hd⟩
theorem own_nc (x : Int32) : nar .char ((x &&& 255).toUInt32.toUInt16.toUInt32.toInt32) = x &&& 255 := by
  show ((x &&& 255).toUInt32.toUInt16.toUInt32.toInt32).toUInt32.toUInt16.toUInt32.toInt32 = _
  rw [i2c_mask, i2c_mask]
theorem own_ncm (x : Int32) : nar .char (x &&& 255) = x &&& 255 := i2c_mask x
theorem own_bb (b : Int32) : nar .byte (b.toInt8.toInt32) = b.toInt8.toInt32 := by
  show b.toInt8.toInt32.toInt8.toInt32 = _
  have h1 := c_i2b b
  have h2 := c_i2b b.toInt8.toInt32
  exact Int32.toInt_inj.mp (by omega)
theorem own_neA {Z : State} {h : Heap} {a b : Addr} {C : String} {k : Nat} {a0 : Array Value} {kb : ClassId} {ty : FieldType} {n : Int32} {vs : List Value} {dv : Value} (E : Exa Z h a C) (wi : (Jvm.Cond.instantiable C k).before a0 Z = true) (F : Arv Z h b kb ty n vs dv) : a ≠ b := by
  obtain ⟨c, A, -⟩ := F; exact ne_arr E wi A
theorem own_r255 (x : Int32) : ¬ (x &&& 255) < (0 : Int32) ∧ ¬ (255 : Int32) < (x &&& 255) := by
  have e := c_mask x 255 8 (by decide) (by decide)
  have z0 : (0 : Int32).toInt = 0 := rfl
  have z1 : (255 : Int32).toInt = 255 := rfl
  have z2 : ((2 ^ 8 : Nat) : Int) = 256 := rfl
  constructor <;> rw [Int32.lt_iff_toInt_lt] <;> omega
theorem own_c255 (x : Int32) : ¬ (255 : Int32) < nar .char ((x &&& 255).toUInt32.toUInt16.toUInt32.toInt32) := by rw [own_nc]; exact (own_r255 x).2
theorem own_eqI {x y : Int32} (h : x.toInt = y.toInt) : x = y := Int32.toInt_inj.mp h
/-- own_E where String constants may be met: the tables may have been warmed widely; EL: the constants whose texts are held -/
def own_W (p : Program) (e : Env) (below : List Frame) (s : State) (k n : Nat) (Z : State) (EL : List (String × Nat)) (hs : Heap) (P : Option Value → Heap → List Loc → Prop) (T : State) (g : JFrame) : Prop :=
  ∃ s₂ o, Steps p.tables e below (T.setTop g) s₂ ∧ s₂.status = .running ∧ Ended s₂ below o ∧ ∃ v L, o = .returned v ∧ P v s₂.heap L ∧ CHr Z EL s.vm hs s₂.vm s₂.heap ∧ ReturnedEndW s o s₂ L k n
section OwnW
variable {p : Program} {l : Launch} {e : Env} {R : Room} {s : State} {m : MethodId} {args : Array Value} {below : List Frame} {meth : Method} {c : Code} {T T' : State} {locs : List Loc} {cells slots : Nat} {k n : Nat} {P : Option Value → Heap → List Loc → Prop} {g g' : JFrame} {Z : State} {EL : List (String × Nat)} {vm0 : Vm} {k0 : Nat} {a0 : Array Value} {hs : Heap}
theorem own_W0 (hh : s.heap = hs) (E : own_W p e below s k n Z EL hs P T g) : ∃ s₂ o, Steps p.tables e below (T.setTop g) s₂ ∧ s₂.status = .running ∧ Ended s₂ below o ∧ ∃ v L, o = .returned v ∧ P v s₂.heap L ∧ CHr Z EL s.vm s.heap s₂.vm s₂.heap ∧ ReturnedEndW s o s₂ L k n := by
  subst hh; exact E
theorem own_hZ (hZ : Z.Warmed39 s.vm) (hS : s.Since vm0 k0) : Z.Warmed39 (s.setVm vm0).vm := State.Warmed39.trans (t := s) hZ hS.1
theorem own_hown {own : String} {cc : ClassId} (h : s.vm.findClass own = some cc) (hS : s.Since vm0 k0) : (s.setVm vm0).vm.findClass own = some cc := by
  rw [show (s.setVm vm0).vm = vm0 from rfl, hS.1.alike.findClass]; exact h
theorem own_stW (h : ∀ t, Steps p.tables e below (T'.setTop g') t → Steps p.tables e below (T.setTop g) t) (E : own_W p e below s k n Z EL hs P T' g') : own_W p e below s k n Z EL hs P T g := by
  obtain ⟨s₂, o, h1, r⟩ := E; exact ⟨s₂, o, h _ h1, r⟩
theorem own_endW (X : Stand p l e R (s.setVm vm0) m args below meth c T locs cells slots) (hZ : Z.Warmed39 vm0) (hS : s.Since vm0 k0) (hk0 : k0 ≤ T.heap.size) (hEL : EW Z a0 EL) (A : CHr Z EL s.vm hs vm0 T.heap) {v : Option Value} (hv : meth.sig.returnType = none → v = none) (hlk : meth.locks = false) (hk : cells ≤ k) (hn : slots ≤ n) (hP : P v T.heap locs)
    (h : ∀ fs : List Frame, (∀ (f : JFrame) (acts : List Action), f.method = m → f.locked = none → f.entered = [] → (doReturn e (T.setTop f) acts v).1 = T.setFrames fs) → Steps p.tables e below (T.setTop g) (T.setFrames fs)) : own_W p e below s k n Z EL hs P T g := by
  obtain ⟨fs, hr, hrun, hended, r1, r2, r3, r4⟩ := X.leaveW hS hk0 (v := v) hv hlk
  exact ⟨_, _, h fs hr, hrun, hended, _, _, rfl, hP, A.trans (show CHr Z EL vm0 T.heap T.vm T.heap from CHv.at X hZ hEL A.1), r1, r2, r3, r4.mono hk hn⟩
theorem own_retVW (X : Stand p l e R (s.setVm vm0) m args below meth c T locs cells slots) (hZ : Z.Warmed39 vm0) (hS : s.Since vm0 k0) (hk0 : k0 ≤ T.heap.size) (hEL : EW Z a0 EL) (A : CHr Z EL s.vm hs vm0 T.heap) (hx : p.tables.exec = Jvm.exec) (hret : meth.sig.returnType = none) (hlk : meth.locks = false) {pc : Nat} {Ls : Array Slot} (hd : decode c.code pc = .ok (.return_, 1)) (hk : cells ≤ k) (hn : slots ≤ n) (hP : P none T.heap locs) : own_W p e below s k n Z EL hs P T (mkF m pc Ls []) :=
  own_endW X hZ hS hk0 hEL A (fun _ => rfl) hlk hk hn hP fun _ hr => X.returnOut hx hret hd hr
theorem own_retNW (X : Stand p l e R (s.setVm vm0) m args below meth c T locs cells slots) (hZ : Z.Warmed39 vm0) (hS : s.Since vm0 k0) (hk0 : k0 ≤ T.heap.size) (hEL : EW Z a0 EL) (A : CHr Z EL s.vm hs vm0 T.heap) (hx : p.tables.exec = Jvm.exec) {t : FieldType} (hret : meth.sig.returnType = some t) (ht : t = .boolean ∨ t = .byte ∨ t = .char ∨ t = .short) (hlk : meth.locks = false) {pc : Nat} {Ls : Array Slot} {z : Int32} {rest : List Value} (hd : decode c.code pc = .ok (.ireturn, 1)) (hk : cells ≤ k) (hn : slots ≤ n) (hP : P (some (.int (nar t z))) T.heap locs) : own_W p e below s k n Z EL hs P T (mkF m pc Ls (.int z :: rest)) :=
  own_endW X hZ hS hk0 hEL A (fun h => by rw [hret] at h; cases h) hlk hk hn hP fun _ hr => retN X hx hret ht hd hr
theorem own_retIW (X : Stand p l e R (s.setVm vm0) m args below meth c T locs cells slots) (hZ : Z.Warmed39 vm0) (hS : s.Since vm0 k0) (hk0 : k0 ≤ T.heap.size) (hEL : EW Z a0 EL) (A : CHr Z EL s.vm hs vm0 T.heap) (hx : p.tables.exec = Jvm.exec) (hret : meth.sig.returnType = some .int) (hlk : meth.locks = false) {pc : Nat} {Ls : Array Slot} {z : Int32} {rest : List Value} (hd : decode c.code pc = .ok (.ireturn, 1)) (hk : cells ≤ k) (hn : slots ≤ n) (hP : P (some (.int z)) T.heap locs) : own_W p e below s k n Z EL hs P T (mkF m pc Ls (.int z :: rest)) :=
  own_endW X hZ hS hk0 hEL A (fun h => by rw [hret] at h; cases h) hlk hk hn hP fun _ hr => retOut X hx hret rfl (Or.inl ⟨rfl, Or.inl rfl, z, rfl⟩) hd hr
theorem own_retAW (X : Stand p l e R (s.setVm vm0) m args below meth c T locs cells slots) (hZ : Z.Warmed39 vm0) (hS : s.Since vm0 k0) (hk0 : k0 ≤ T.heap.size) (hEL : EW Z a0 EL) (A : CHr Z EL s.vm hs vm0 T.heap) (hx : p.tables.exec = Jvm.exec) {t : FieldType} (hret : meth.sig.returnType = some t) (ht : t.isReference = true) {w : Value} (hw : w.isRef = true) (hlk : meth.locks = false) {pc : Nat} {Ls : Array Slot} {rest : List Value} (hd : decode c.code pc = .ok (.areturn, 1)) (hk : cells ≤ k) (hn : slots ≤ n) (hP : P (some w) T.heap locs) : own_W p e below s k n Z EL hs P T (mkF m pc Ls (w :: rest)) :=
  own_endW X hZ hS hk0 hEL A (fun h => by rw [hret] at h; cases h) hlk hk hn hP fun _ hr => retOut X hx hret (own_narR ht) (Or.inr (Or.inr (Or.inr (Or.inr ⟨rfl, ht, hw⟩)))) hd hr
/-- who pays a callee of ours that may meet String constants: 'sf', the objects that are none of them -/
theorem own_backW {y : MethodName} {bytes : ByteArray} {maxL : Nat} {ret : Option FieldType} {rm : Room} {len W : Nat} {as' : Array Value} {Q : Option Value → Heap → List Loc → Prop} {h : Heap} {sf : List Addr}
    (hM : MetFree l y (head1 [Jvm.Cond.code y bytes maxL ret] rm) (fun a U => a = as' ∧ Z.Warmed39 U.vm ∧ U.heap = h ∧ CHv Z EL U.vm h ∧ ∀ x ∈ sf, Safe Z EL U.vm h x) (fun _ _ _ _ _ => True) (fun _ U o U' => ∃ v L, o = .returned v ∧ Q v U'.heap L ∧ CHr Z EL U.vm U.heap U'.vm U'.heap ∧ ReturnedEndW U o U' L rm.cells rm.slots))
    (hZ : Z.Warmed39 (s.setVm vm0).vm) (wc : (Jvm.Cond.code y bytes maxL ret).before a0 Z = true) (wz : (Jvm.Cond.initialized y.cls).before a0 Z = true) (hf : rm.frames + 1 ≤ R.frames) (hl : W + (maxL + 11) + rm.locals ≤ R.locals) (hEL : EW Z a0 EL) (H : CHv Z EL vm0 h) (S : ∀ x ∈ sf, Safe Z EL vm0 h x) (St : ∀ x ∈ sf, x < h.size) :
    BackS l R p e below (s.setVm vm0) args y len W (fun A a => a = as' ∧ A.U.heap = h ∧ A.cells + rm.cells ≤ R.cells ∧ A.slots + rm.slots ≤ R.slots)
      (fun A _ v B => ∃ L, Q v B.U.heap L ∧ B.locs = A.locs ++ L ∧ B.cells = A.cells + rm.cells ∧ B.slots = A.slots + rm.slots ∧ CHr Z EL vm0 h B.U.vm B.U.heap) := by
  have hZ' : Z.Warmed39 vm0 := hZ
  refine BackS.of_freeW (bytes := bytes) (maxL := maxL) (ret := ret) (E := fun _ first o t L k n => k = rm.cells ∧ n = rm.slots ∧ (∃ v, o = .returned v ∧ Q v t.heap L) ∧ CHr Z EL first.vm first.heap t.vm t.heap) hM hf hl ?_ ?_ (fun _ _ _ _ _ _ _ _ _ => trivial) ?_ ?_
  · intro m meth c A a Y hp
    have hU : Z.Warmed39 A.U.vm := wtrans (s := s.setVm vm0) hZ Y.warmed
    refine ⟨?_, mv hU wc, mv hU wz, hp.2.2.1, hp.2.2.2⟩
    show (Jvm.Cond.and _ .tt).before a A.U = true
    rw [Cond.before_and, mv hU wc]; rfl
  · intro m meth c A a g mk Y hp
    have K := CHv.at Y hZ' hEL H
    exact ⟨hp.1, wtrans (s := s.setVm vm0) hZ Y.warmed, hp.2.1, K.1, fun x hx => K.safe (St x hx) (S x hx)⟩
  · rintro _ _ _ _ ⟨v, L, h1, h2, h3, h4⟩
    exact ⟨L, _, _, h4, rfl, rfl, ⟨v, h1, h2⟩, h3⟩
  · rintro m meth c A a g mk v t L k n Y hp _ _ ⟨e1, e2, ⟨v', e3, e4⟩, e5⟩
    cases e3; subst e1 e2
    refine ⟨L, e4, rfl, rfl, rfl, (CHv.at Y hZ' hEL H).trans ?_⟩
    rw [← hp.2.1]; exact e5
theorem own_callSW {W : Nat} {rm : Room} {as' : Array Value} {Q : Option Value → Heap → List Loc → Prop} {h : Heap} {c' s' : Nat} (X : Stand p l e R (s.setVm vm0) m args below meth c T locs cells slots) (hx : p.tables.exec = Jvm.exec) {own : String} {index : Nat} {y : MethodName} {bytes : ByteArray} {maxL : Nat} {ret : Option FieldType} (hown : (s.setVm vm0).vm.findClass own = some m.cls) (hlink : (Jvm.Cond.methodLink own index y).before args (s.setVm vm0) = true) (hstat : (Jvm.Cond.static y).before args (s.setVm vm0) = true) (hinit : (Jvm.Cond.initialized y.cls).before args (s.setVm vm0) = true) (hcode : (Jvm.Cond.code y bytes maxL ret).before args (s.setVm vm0) = true) (hy : y.cls ≠ "java/lang/invoke/MethodHandle" ∧ y.cls ≠ "java/lang/invoke/VarHandle") (hK : BackS l R p e below (s.setVm vm0) args y 3 W (fun A a => a = as' ∧ A.U.heap = h ∧ A.cells + rm.cells ≤ R.cells ∧ A.slots + rm.slots ≤ R.slots) (fun A _ v B => ∃ L, Q v B.U.heap L ∧ B.locs = A.locs ++ L ∧ B.cells = A.cells + rm.cells ∧ B.slots = A.slots + rm.slots ∧ CHr Z EL vm0 h B.U.vm B.U.heap)) {g : JFrame} (hg : g.method = m) (hsize : g.locals.size = c.maxLocals) {argsL rest : List Value} (hlen : ∀ sig, parseMethodDescriptor y.desc = some sig → argsL.length = sig.parameters.length) (hstack : g.stack = argsL.reverse ++ rest) (hW : 2 * g.monitorRoom + (rest.map fun v => v.category).sum ≤ W) (hdg : decode c.code g.pc = .ok (.invokestatic index, 3)) (ha : argsL.toArray = as') (eT : T.heap = h) (hc : cells + rm.cells ≤ R.cells) (hs' : slots + rm.slots ≤ R.slots) (h1 : cells + rm.cells = c') (h2 : slots + rm.slots = s') (hS : s.Since vm0 k0) (hk : k0 ≤ h.size) :
    ∃ (v : Option Value) (T' : State) (L : List Loc), Stand p l e R (s.setVm T'.vm) m args below meth c T' (locs ++ L) c' s' ∧ s.Since T'.vm T'.heap.size ∧ Q v T'.heap L ∧ CHr Z EL vm0 h T'.vm T'.heap ∧ ∀ t, Steps p.tables e below (T'.setTop { g with pc := g.pc + 3, stack := v.toList ++ rest }) t → Steps p.tables e below (T.setTop g) t := by
  subst h1 h2
  obtain ⟨v, vm₁, ⟨T', L', k', n'⟩, -, X', hS2, hgr, ⟨L, hQ, h3, h4, h5, ch⟩, st⟩ := callSS X hx hown hlink hstat hinit hcode hy hK hg hsize hlen hstack hW hdg (fun _ _ => ⟨ha, eT, hc, hs'⟩)
  dsimp only [Pt.U, Pt.locs, Pt.cells, Pt.slots] at X' hS2 hgr h3 h4 h5 st hQ ch
  subst h3 h4 h5
  exact ⟨v, T', L, X', hS.trans hS2 (Nat.le_trans (eT ▸ hk) hgr), hQ, ch, fun t k => st.trans k⟩
theorem own_callIW {W : Nat} {rm : Room} {as' : Array Value} {Q : Option Value → Heap → List Loc → Prop} {h : Heap} {c' s' : Nat} (X : Stand p l e R (s.setVm vm0) m args below meth c T locs cells slots) (hx : p.tables.exec = Jvm.exec) {own : String} {index : Nat} {y : MethodName} {bytes : ByteArray} {maxL : Nat} (hy1 : y.name = "<init>") (hown : (s.setVm vm0).vm.findClass own = some m.cls) (hlink : (Jvm.Cond.methodLink own index y).before args (s.setVm vm0) = true) (hinst : (Jvm.Cond.instanceMethod y).before args (s.setVm vm0) = true) (hcode : (Jvm.Cond.code y bytes maxL none).before args (s.setVm vm0) = true) (hy : y.cls ≠ "java/lang/invoke/MethodHandle" ∧ y.cls ≠ "java/lang/invoke/VarHandle") (hK : BackS l R p e below (s.setVm vm0) args y 3 W (fun A a => a = as' ∧ A.U.heap = h ∧ A.cells + rm.cells ≤ R.cells ∧ A.slots + rm.slots ≤ R.slots) (fun A _ v B => ∃ L, Q v B.U.heap L ∧ B.locs = A.locs ++ L ∧ B.cells = A.cells + rm.cells ∧ B.slots = A.slots + rm.slots ∧ CHr Z EL vm0 h B.U.vm B.U.heap)) {g : JFrame} (hg : g.method = m) (hsize : g.locals.size = c.maxLocals) {a : Addr} {argsL rest : List Value} (hlen : ∀ sig, parseMethodDescriptor y.desc = some sig → argsL.length = sig.parameters.length) (hstack : g.stack = argsL.reverse ++ .ref a :: rest) (hW : 2 * g.monitorRoom + (rest.map fun v => v.category).sum ≤ W) (hdg : decode c.code g.pc = .ok (.invokespecial index, 3)) (ha : (.ref a :: argsL).toArray = as') (eT : T.heap = h) (hc : cells + rm.cells ≤ R.cells) (hs' : slots + rm.slots ≤ R.slots) (h1 : cells + rm.cells = c') (h2 : slots + rm.slots = s') (hS : s.Since vm0 k0) (hk : k0 ≤ h.size) :
    ∃ (v : Option Value) (T' : State) (L : List Loc), Stand p l e R (s.setVm T'.vm) m args below meth c T' (locs ++ L) c' s' ∧ s.Since T'.vm T'.heap.size ∧ Q v T'.heap L ∧ CHr Z EL vm0 h T'.vm T'.heap ∧ ∀ t, Steps p.tables e below (T'.setTop { g with pc := g.pc + 3, stack := v.toList ++ rest }) t → Steps p.tables e below (T.setTop g) t := by
  subst h1 h2
  obtain ⟨v, vm₁, ⟨T', L', k', n'⟩, -, X', hS2, hgr, ⟨L, hQ, h3, h4, h5, ch⟩, st⟩ := X.specialBackS hx hy1 hown hlink hinst hcode hy hK hg hsize (Steps.refl _) hlen hstack hW hdg (fun _ _ => ⟨ha, eT, hc, hs'⟩)
  dsimp only [Pt.U, Pt.locs, Pt.cells, Pt.slots] at X' hS2 hgr h3 h4 h5 st hQ ch
  subst h3 h4 h5
  exact ⟨v, T', L, X', hS.trans hS2 (Nat.le_trans (eT ▸ hk) hgr), hQ, ch, fun t k => st.trans k⟩
theorem own_callVW {W : Nat} {rm : Room} {as' : Array Value} {Q : Option Value → Heap → List Loc → Prop} {h : Heap} {c' s' : Nat} (X : Stand p l e R (s.setVm vm0) m args below meth c T locs cells slots) (hx : p.tables.exec = Jvm.exec) {own : String} {index : Nat} {C : String} {y z : MethodName} (hown : (s.setVm vm0).vm.findClass own = some m.cls) (hlink : (Jvm.Cond.methodLink own index y).before args (s.setVm vm0) = true) (hdecl : (Jvm.Cond.declares y).before args (s.setVm vm0) = true) (hnf : NotFace (s.setVm vm0) y) (hsel : (Jvm.Cond.selects C y z).before args (s.setVm vm0) = true) (hinst : (Jvm.Cond.instanceMethod z).before args (s.setVm vm0) = true) (hy : y.cls ≠ "java/lang/invoke/MethodHandle" ∧ y.cls ≠ "java/lang/invoke/VarHandle") (hK : BackS l R p e below (s.setVm vm0) args z 3 W (fun A a => a = as' ∧ A.U.heap = h ∧ A.cells + rm.cells ≤ R.cells ∧ A.slots + rm.slots ≤ R.slots) (fun A _ v B => ∃ L, Q v B.U.heap L ∧ B.locs = A.locs ++ L ∧ B.cells = A.cells + rm.cells ∧ B.slots = A.slots + rm.slots ∧ CHr Z EL vm0 h B.U.vm B.U.heap)) {b : Addr} {cB : ClassId} (hcB : (s.setVm vm0).vm.findClass C = some cB) (hrecv : IsOf cB T b) {g : JFrame} (hg : g.method = m) (hsize : g.locals.size = c.maxLocals) {argsL rest : List Value} (hlen : ∀ sig, parseMethodDescriptor y.desc = some sig → argsL.length = sig.parameters.length) (hstack : g.stack = argsL.reverse ++ .ref b :: rest) (hW : 2 * g.monitorRoom + (rest.map fun v => v.category).sum ≤ W) (hdg : decode c.code g.pc = .ok (.invokevirtual index, 3)) (ha : (.ref b :: argsL).toArray = as') (eT : T.heap = h) (hc : cells + rm.cells ≤ R.cells) (hs' : slots + rm.slots ≤ R.slots) (h1 : cells + rm.cells = c') (h2 : slots + rm.slots = s') (hS : s.Since vm0 k0) (hk : k0 ≤ h.size) :
    ∃ (v : Option Value) (T' : State) (L : List Loc), Stand p l e R (s.setVm T'.vm) m args below meth c T' (locs ++ L) c' s' ∧ s.Since T'.vm T'.heap.size ∧ Q v T'.heap L ∧ CHr Z EL vm0 h T'.vm T'.heap ∧ ∀ t, Steps p.tables e below (T'.setTop { g with pc := g.pc + 3, stack := v.toList ++ rest }) t → Steps p.tables e below (T.setTop g) t := by
  subst h1 h2
  obtain ⟨v, vm₁, ⟨T', L', k', n'⟩, -, X', hS2, hgr, ⟨L, hQ, h3, h4, h5, ch⟩, st⟩ := X.virtualBackS hx hown hlink hdecl hnf hsel hinst hy hK hcB hrecv hg hsize (Steps.refl _) hlen hstack hW hdg (fun _ _ => ⟨ha, eT, hc, hs'⟩)
  dsimp only [Pt.U, Pt.locs, Pt.cells, Pt.slots] at X' hS2 hgr h3 h4 h5 st hQ ch
  subst h3 h4 h5
  exact ⟨v, T', L, X', hS.trans hS2 (Nat.le_trans (eT ▸ hk) hgr), hQ, ch, fun t k => st.trans k⟩
end OwnW
def own_WX (p : Program) (e : Env) (below : List Frame) (s : State) (k n : Nat) (Z : State) (EL : List (String × Nat)) (hs : Heap) (P : Option Value → Heap → List Loc → Vm → Prop) (T : State) (g : JFrame) : Prop :=
  ∃ s₂ o, Steps p.tables e below (T.setTop g) s₂ ∧ s₂.status = .running ∧ Ended s₂ below o ∧ ∃ v L, o = .returned v ∧ P v s₂.heap L s₂.vm ∧ CHr Z EL s.vm hs s₂.vm s₂.heap ∧ ReturnedEndW s o s₂ L k n
section OwnWX
variable {p : Program} {l : Launch} {e : Env} {R : Room} {s : State} {m : MethodId} {args : Array Value} {below : List Frame} {meth : Method} {c : Code} {T T' : State} {locs : List Loc} {cells slots : Nat} {k n : Nat} {P : Option Value → Heap → List Loc → Vm → Prop} {g g' : JFrame} {Z : State} {EL : List (String × Nat)} {vm0 : Vm} {k0 : Nat} {a0 : Array Value} {hs : Heap}
theorem own_W0X (hh : s.heap = hs) (E : own_WX p e below s k n Z EL hs P T g) : ∃ s₂ o, Steps p.tables e below (T.setTop g) s₂ ∧ s₂.status = .running ∧ Ended s₂ below o ∧ ∃ v L, o = .returned v ∧ P v s₂.heap L s₂.vm ∧ CHr Z EL s.vm s.heap s₂.vm s₂.heap ∧ ReturnedEndW s o s₂ L k n := by
  subst hh; exact E
theorem own_stWX (h : ∀ t, Steps p.tables e below (T'.setTop g') t → Steps p.tables e below (T.setTop g) t) (E : own_WX p e below s k n Z EL hs P T' g') : own_WX p e below s k n Z EL hs P T g := by
  obtain ⟨s₂, o, h1, r⟩ := E; exact ⟨s₂, o, h _ h1, r⟩
theorem own_endWX (X : Stand p l e R (s.setVm vm0) m args below meth c T locs cells slots) (hZ : Z.Warmed39 vm0) (hS : s.Since vm0 k0) (hk0 : k0 ≤ T.heap.size) (hEL : EW Z a0 EL) (A : CHr Z EL s.vm hs vm0 T.heap) {v : Option Value} (hv : meth.sig.returnType = none → v = none) (hlk : meth.locks = false) (hk : cells ≤ k) (hn : slots ≤ n) (hP : P v T.heap locs T.vm)
    (h : ∀ fs : List Frame, (∀ (f : JFrame) (acts : List Action), f.method = m → f.locked = none → f.entered = [] → (doReturn e (T.setTop f) acts v).1 = T.setFrames fs) → Steps p.tables e below (T.setTop g) (T.setFrames fs)) : own_WX p e below s k n Z EL hs P T g := by
  obtain ⟨fs, hr, hrun, hended, r1, r2, r3, r4⟩ := X.leaveW hS hk0 (v := v) hv hlk
  exact ⟨_, _, h fs hr, hrun, hended, _, _, rfl, hP, A.trans (show CHr Z EL vm0 T.heap T.vm T.heap from CHv.at X hZ hEL A.1), r1, r2, r3, r4.mono hk hn⟩
theorem own_retNWX (X : Stand p l e R (s.setVm vm0) m args below meth c T locs cells slots) (hZ : Z.Warmed39 vm0) (hS : s.Since vm0 k0) (hk0 : k0 ≤ T.heap.size) (hEL : EW Z a0 EL) (A : CHr Z EL s.vm hs vm0 T.heap) (hx : p.tables.exec = Jvm.exec) {t : FieldType} (hret : meth.sig.returnType = some t) (ht : t = .boolean ∨ t = .byte ∨ t = .char ∨ t = .short) (hlk : meth.locks = false) {pc : Nat} {Ls : Array Slot} {z : Int32} {rest : List Value} (hd : decode c.code pc = .ok (.ireturn, 1)) (hk : cells ≤ k) (hn : slots ≤ n) (hP : P (some (.int (nar t z))) T.heap locs T.vm) : own_WX p e below s k n Z EL hs P T (mkF m pc Ls (.int z :: rest)) :=
  own_endWX X hZ hS hk0 hEL A (fun h => by rw [hret] at h; cases h) hlk hk hn hP fun _ hr => retN X hx hret ht hd hr
theorem own_backWX0 {y : MethodName} {bytes : ByteArray} {maxL : Nat} {ret : Option FieldType} {rm : Room} {len W : Nat} {as' : Array Value} {Q : Option Value → Heap → List Loc → Vm → Prop} {h : Heap} {sf : List Addr}
    (hM : MetFree l y (head1 [Jvm.Cond.code y bytes maxL ret] rm) (fun a U => a = as' ∧ Z.Warmed39 U.vm ∧ U.heap = h ∧ CHv Z EL U.vm h ∧ ∀ x ∈ sf, Safe Z EL U.vm h x) (fun _ _ _ _ _ => True) (fun _ U o U' => ∃ v L, o = .returned v ∧ Q v U'.heap L U'.vm ∧ CHr Z EL U.vm U.heap U'.vm U'.heap ∧ ReturnedEndW U o U' L rm.cells rm.slots))
    (hZ : Z.Warmed39 (s.setVm vm0).vm) (wc : (Jvm.Cond.code y bytes maxL ret).before a0 Z = true) (wz : (Jvm.Cond.initialized y.cls).before a0 Z = true) (hf : rm.frames + 1 ≤ R.frames) (hl : W + (maxL + 11) + rm.locals ≤ R.locals) (hEL : EW Z a0 EL) (H : CHv Z EL vm0 h) (S : ∀ x ∈ sf, Safe Z EL vm0 h x) (St : ∀ x ∈ sf, x < h.size) :
    BackS l R p e below (s.setVm vm0) args y len W (fun A a => a = as' ∧ A.U.heap = h ∧ A.cells + rm.cells ≤ R.cells ∧ A.slots + rm.slots ≤ R.slots)
      (fun A _ v B => ∃ L, Q v B.U.heap L B.U.vm ∧ B.locs = A.locs ++ L ∧ B.cells = A.cells + rm.cells ∧ B.slots = A.slots + rm.slots ∧ CHr Z EL vm0 h B.U.vm B.U.heap) := by
  have hZ' : Z.Warmed39 vm0 := hZ
  refine BackS.of_freeW (bytes := bytes) (maxL := maxL) (ret := ret) (E := fun _ first o t L k n => k = rm.cells ∧ n = rm.slots ∧ (∃ v, o = .returned v ∧ Q v t.heap L t.vm) ∧ CHr Z EL first.vm first.heap t.vm t.heap) hM hf hl ?_ ?_ (fun _ _ _ _ _ _ _ _ _ => trivial) ?_ ?_
  · intro m meth c A a Y hp
    have hU : Z.Warmed39 A.U.vm := wtrans (s := s.setVm vm0) hZ Y.warmed
    refine ⟨?_, mv hU wc, mv hU wz, hp.2.2.1, hp.2.2.2⟩
    show (Jvm.Cond.and _ .tt).before a A.U = true
    rw [Cond.before_and, mv hU wc]; rfl
  · intro m meth c A a g mk Y hp
    have K := CHv.at Y hZ' hEL H
    exact ⟨hp.1, wtrans (s := s.setVm vm0) hZ Y.warmed, hp.2.1, K.1, fun x hx => K.safe (St x hx) (S x hx)⟩
  · rintro _ _ _ _ ⟨v, L, h1, h2, h3, h4⟩
    exact ⟨L, _, _, h4, rfl, rfl, ⟨v, h1, h2⟩, h3⟩
  · rintro m meth c A a g mk v t L k n Y hp _ _ ⟨e1, e2, ⟨v', e3, e4⟩, e5⟩
    cases e3; subst e1 e2
    refine ⟨L, e4, rfl, rfl, rfl, (CHv.at Y hZ' hEL H).trans ?_⟩
    rw [← hp.2.1]; exact e5
theorem own_wx {vm1 : Vm} (h : (s.setVm vm0).Warmed39 vm1) : (Z.setVm vm0).Warmed39 vm1 := h
theorem own_backWX1 {y : MethodName} {bytes : ByteArray} {maxL : Nat} {ret : Option FieldType} {rm : Room} {len W : Nat} {as' : Array Value} {Q : Option Value → Heap → List Loc → Vm → Prop} {h : Heap} {sf : List Addr}
    {lo : String} {li : Nat} {la : Addr} (LT : Lit (Z.setVm vm0) lo li la) (hM : MetFree l y (head1 [Jvm.Cond.code y bytes maxL ret] rm) (fun a U => a = as' ∧ Z.Warmed39 U.vm ∧ U.heap = h ∧ CHv Z EL U.vm h ∧ (∀ x ∈ sf, Safe Z EL U.vm h x) ∧ Lit (Z.setVm U.vm) lo li la) (fun _ _ _ _ _ => True) (fun _ U o U' => ∃ v L, o = .returned v ∧ Q v U'.heap L U'.vm ∧ CHr Z EL U.vm U.heap U'.vm U'.heap ∧ ReturnedEndW U o U' L rm.cells rm.slots))
    (hZ : Z.Warmed39 (s.setVm vm0).vm) (wc : (Jvm.Cond.code y bytes maxL ret).before a0 Z = true) (wz : (Jvm.Cond.initialized y.cls).before a0 Z = true) (hf : rm.frames + 1 ≤ R.frames) (hl : W + (maxL + 11) + rm.locals ≤ R.locals) (hEL : EW Z a0 EL) (H : CHv Z EL vm0 h) (S : ∀ x ∈ sf, Safe Z EL vm0 h x) (St : ∀ x ∈ sf, x < h.size) :
    BackS l R p e below (s.setVm vm0) args y len W (fun A a => a = as' ∧ A.U.heap = h ∧ A.cells + rm.cells ≤ R.cells ∧ A.slots + rm.slots ≤ R.slots)
      (fun A _ v B => ∃ L, Q v B.U.heap L B.U.vm ∧ B.locs = A.locs ++ L ∧ B.cells = A.cells + rm.cells ∧ B.slots = A.slots + rm.slots ∧ CHr Z EL vm0 h B.U.vm B.U.heap) := by
  have hZ' : Z.Warmed39 vm0 := hZ
  refine BackS.of_freeW (bytes := bytes) (maxL := maxL) (ret := ret) (E := fun _ first o t L k n => k = rm.cells ∧ n = rm.slots ∧ (∃ v, o = .returned v ∧ Q v t.heap L t.vm) ∧ CHr Z EL first.vm first.heap t.vm t.heap) hM hf hl ?_ ?_ (fun _ _ _ _ _ _ _ _ _ => trivial) ?_ ?_
  · intro m meth c A a Y hp
    have hU : Z.Warmed39 A.U.vm := wtrans (s := s.setVm vm0) hZ Y.warmed
    refine ⟨?_, mv hU wc, mv hU wz, hp.2.2.1, hp.2.2.2⟩
    show (Jvm.Cond.and _ .tt).before a A.U = true
    rw [Cond.before_and, mv hU wc]; rfl
  · intro m meth c A a g mk Y hp
    have K := CHv.at Y hZ' hEL H
    exact ⟨hp.1, wtrans (s := s.setVm vm0) hZ Y.warmed, hp.2.1, K.1, fun x hx => K.safe (St x hx) (S x hx), (show Lit (Z.setVm A.U.vm) lo li la from Lit.stays (s := Z) (vm0 := vm0) (vm1 := A.U.vm) LT (show (Z.setVm vm0).Warmed39 A.U.vm from own_wx Y.warmed.wide))⟩
  · rintro _ _ _ _ ⟨v, L, h1, h2, h3, h4⟩
    exact ⟨L, _, _, h4, rfl, rfl, ⟨v, h1, h2⟩, h3⟩
  · rintro m meth c A a g mk v t L k n Y hp _ _ ⟨e1, e2, ⟨v', e3, e4⟩, e5⟩
    cases e3; subst e1 e2
    refine ⟨L, e4, rfl, rfl, rfl, (CHv.at Y hZ' hEL H).trans ?_⟩
    rw [← hp.2.1]; exact e5
theorem own_callSWX {W : Nat} {rm : Room} {as' : Array Value} {Q : Option Value → Heap → List Loc → Vm → Prop} {h : Heap} {c' s' : Nat} (X : Stand p l e R (s.setVm vm0) m args below meth c T locs cells slots) (hx : p.tables.exec = Jvm.exec) {own : String} {index : Nat} {y : MethodName} {bytes : ByteArray} {maxL : Nat} {ret : Option FieldType} (hown : (s.setVm vm0).vm.findClass own = some m.cls) (hlink : (Jvm.Cond.methodLink own index y).before args (s.setVm vm0) = true) (hstat : (Jvm.Cond.static y).before args (s.setVm vm0) = true) (hinit : (Jvm.Cond.initialized y.cls).before args (s.setVm vm0) = true) (hcode : (Jvm.Cond.code y bytes maxL ret).before args (s.setVm vm0) = true) (hy : y.cls ≠ "java/lang/invoke/MethodHandle" ∧ y.cls ≠ "java/lang/invoke/VarHandle") (hK : BackS l R p e below (s.setVm vm0) args y 3 W (fun A a => a = as' ∧ A.U.heap = h ∧ A.cells + rm.cells ≤ R.cells ∧ A.slots + rm.slots ≤ R.slots) (fun A _ v B => ∃ L, Q v B.U.heap L B.U.vm ∧ B.locs = A.locs ++ L ∧ B.cells = A.cells + rm.cells ∧ B.slots = A.slots + rm.slots ∧ CHr Z EL vm0 h B.U.vm B.U.heap)) {g : JFrame} (hg : g.method = m) (hsize : g.locals.size = c.maxLocals) {argsL rest : List Value} (hlen : ∀ sig, parseMethodDescriptor y.desc = some sig → argsL.length = sig.parameters.length) (hstack : g.stack = argsL.reverse ++ rest) (hW : 2 * g.monitorRoom + (rest.map fun v => v.category).sum ≤ W) (hdg : decode c.code g.pc = .ok (.invokestatic index, 3)) (ha : argsL.toArray = as') (eT : T.heap = h) (hc : cells + rm.cells ≤ R.cells) (hs' : slots + rm.slots ≤ R.slots) (h1 : cells + rm.cells = c') (h2 : slots + rm.slots = s') (hS : s.Since vm0 k0) (hk : k0 ≤ h.size) :
    ∃ (v : Option Value) (T' : State) (L : List Loc), Stand p l e R (s.setVm T'.vm) m args below meth c T' (locs ++ L) c' s' ∧ s.Since T'.vm T'.heap.size ∧ Q v T'.heap L T'.vm ∧ CHr Z EL vm0 h T'.vm T'.heap ∧ ∀ t, Steps p.tables e below (T'.setTop { g with pc := g.pc + 3, stack := v.toList ++ rest }) t → Steps p.tables e below (T.setTop g) t := by
  subst h1 h2
  obtain ⟨v, vm₁, ⟨T', L', k', n'⟩, -, X', hS2, hgr, ⟨L, hQ, h3, h4, h5, ch⟩, st⟩ := callSS X hx hown hlink hstat hinit hcode hy hK hg hsize hlen hstack hW hdg (fun _ _ => ⟨ha, eT, hc, hs'⟩)
  dsimp only [Pt.U, Pt.locs, Pt.cells, Pt.slots] at X' hS2 hgr h3 h4 h5 st hQ ch
  subst h3 h4 h5
  exact ⟨v, T', L, X', hS.trans hS2 (Nat.le_trans (eT ▸ hk) hgr), hQ, ch, fun t k => st.trans k⟩
end OwnWX
abbrev own_m0 : MethodName := ⟨"java/lang/StringUTF16", "compress", "([CI[BII)I"⟩
abbrev own_m1 : MethodName := ⟨"java/lang/StringUTF16", "compress", "([CII)[B"⟩
abbrev own_m2 : MethodName := ⟨"java/lang/StringUTF16", "coderFromArrayLen", "([BI)B"⟩
abbrev own_m3 : MethodName := ⟨"java/lang/String", "<init>", "([CIILjava/lang/Void;)V"⟩
abbrev own_m4 : MethodName := ⟨"java/lang/String", "<init>", "([C)V"⟩
abbrev own_m5 : MethodName := ⟨"java/lang/String", "coder", "()B"⟩
abbrev own_m6 : MethodName := ⟨"java/lang/String", "length", "()I"⟩
abbrev own_m7 : MethodName := ⟨"java/lang/String", "isLatin1", "()Z"⟩
abbrev own_m8 : MethodName := ⟨"java/lang/Math", "min", "(II)I"⟩
abbrev own_m9 : MethodName := ⟨"jdk/internal/util/Preconditions", "checkFromToIndex", "(IIILjava/util/function/BiFunction;)I"⟩
abbrev own_m10 : MethodName := ⟨"java/lang/String", "checkBoundsBeginEnd", "(III)V"⟩
abbrev own_m11 : MethodName := ⟨"java/util/Arrays", "checkLength", "(II)V"⟩
abbrev own_m12 : MethodName := ⟨"java/lang/String", "<init>", "([BB)V"⟩
abbrev own_m13 : MethodName := ⟨"java/lang/String", "charAt", "(I)C"⟩
abbrev own_m14 : MethodName := ⟨"com/example/sheafgate/sheafgate/store/SetSpecsLastPartPinLaw", "pick", "(JI)C"⟩
abbrev own_m15 : MethodName := ⟨"java/lang/StringLatin1", "canEncode", "(I)Z"⟩
abbrev own_m16 : MethodName := ⟨"java/lang/StringLatin1", "lastIndexOf", "([BII)I"⟩
abbrev own_m17 : MethodName := ⟨"java/lang/String", "lastIndexOf", "(II)I"⟩
abbrev own_m18 : MethodName := ⟨"java/lang/String", "lastIndexOf", "(I)I"⟩
abbrev own_m19 : MethodName := ⟨"java/lang/String", "substring", "(II)Ljava/lang/String;"⟩
abbrev own_m20 : MethodName := ⟨"java/lang/String", "substring", "(I)Ljava/lang/String;"⟩
abbrev own_m21 : MethodName := ⟨"com/example/sheafgate/sheafgate/store/SetSpecs", "lastPart", "(Ljava/lang/String;)Ljava/lang/String;"⟩
abbrev own_m22 : MethodName := ⟨"java/util/Arrays", "copyOfRangeByte", "([BII)[B"⟩
abbrev own_m23 : MethodName := ⟨"java/util/Arrays", "copyOfRange", "([BII)[B"⟩
abbrev own_m24 : MethodName := ⟨"java/lang/StringLatin1", "newString", "([BII)Ljava/lang/String;"⟩
abbrev own_m25 : MethodName := ⟨"com/example/sheafgate/sheafgate/store/SetSpecsLastPartPinLaw", "at", "(Ljava/lang/String;[CII)Z"⟩
theorem own_wS {Z : State} {a0 : Array Value} (hw : ∀ d ∈ tables_1, d.before a0 Z = true) : ∀ a ∈ Bundle.stringAtoms, a.before a0 Z = true := by
  intro d hd
  simp only [Bundle.stringAtoms, Bundle.sN, List.mem_cons, List.not_mem_nil, or_false] at hd
  rcases hd with rfl | rfl | rfl | rfl | rfl | rfl | rfl
  · exact (hw _ (List.mem_of_getElem? (i := 6) rfl))
  · exact (hw _ (List.mem_of_getElem? (i := 7) rfl))
  · exact (hw _ (List.mem_of_getElem? (i := 8) rfl))
  · exact (hw _ (List.mem_of_getElem? (i := 9) rfl))
  · exact (hw _ (List.mem_of_getElem? (i := 10) rfl))
  · exact (hw _ (List.mem_of_getElem? (i := 11) rfl))
  · exact (hw _ (List.mem_of_getElem? (i := 12) rfl))
theorem own_EW {Z : State} {a0 : Array Value} (hw : ∀ d ∈ tables_1, d.before a0 Z = true) : EW Z a0 consts_1 := (EW.cons (hw _ (List.mem_of_getElem? (i := 5) rfl)) (by decide) EW.nil)
theorem own_up (cs : List Int32) (h : ∀ c ∈ cs, ¬ c < 0 ∧ ¬ (255 : Int32) < c) : ∀ c ∈ cs, ¬ c < 0 ∧ ¬ (65535 : Int32) < c := fun c hc => ⟨(h c hc).1, fun q => (h c hc).2 (by rw [Int32.lt_iff_toInt_lt] at q ⊢; have e1 : (65535 : Int32).toInt = 65535 := rfl; have e2 : (255 : Int32).toInt = 255 := rfl; omega)⟩
theorem own_wCh {Z : State} {a0 : Array Value} (hw : ∀ d ∈ tables_1, d.before a0 Z = true) : ∀ d ∈ StrChars.Road.wordsChN, d.before a0 Z = true := fun d hd => hw d ((by decide +kernel : ∀ d ∈ StrChars.Road.wordsChN, d ∈ tables_1) d hd)
theorem d11_0 : decode jdk_52_method_21_code 0 = .ok (.iconst 0, 1) := by decide +kernel
theorem d11_1 : decode jdk_52_method_21_code 1 = .ok (.istore 5, 2) := by decide +kernel
theorem d11_3 : decode jdk_52_method_21_code 3 = .ok (.iload 5, 2) := by decide +kernel
theorem d11_5 : decode jdk_52_method_21_code 5 = .ok (.iload 4, 2) := by decide +kernel
theorem d11_7 : decode jdk_52_method_21_code 7 = .ok (.if_icmp .ge 37, 3) := by decide +kernel
theorem d11_10 : decode jdk_52_method_21_code 10 = .ok (.aload_n 0, 1) := by decide +kernel
theorem d11_11 : decode jdk_52_method_21_code 11 = .ok (.iload_n 1, 1) := by decide +kernel
theorem d11_12 : decode jdk_52_method_21_code 12 = .ok (.caload, 1) := by decide +kernel
theorem d11_13 : decode jdk_52_method_21_code 13 = .ok (.istore 6, 2) := by decide +kernel
theorem d11_15 : decode jdk_52_method_21_code 15 = .ok (.iload 6, 2) := by decide +kernel
theorem d11_17 : decode jdk_52_method_21_code 17 = .ok (.sipush 255, 3) := by decide +kernel
theorem d11_20 : decode jdk_52_method_21_code 20 = .ok (.if_icmp .le 6, 3) := by decide +kernel
theorem d11_26 : decode jdk_52_method_21_code 26 = .ok (.aload_n 2, 1) := by decide +kernel
theorem d11_27 : decode jdk_52_method_21_code 27 = .ok (.iload_n 3, 1) := by decide +kernel
theorem d11_28 : decode jdk_52_method_21_code 28 = .ok (.iload 6, 2) := by decide +kernel
theorem d11_30 : decode jdk_52_method_21_code 30 = .ok (.i2b, 1) := by decide +kernel
theorem d11_31 : decode jdk_52_method_21_code 31 = .ok (.bastore, 1) := by decide +kernel
theorem d11_32 : decode jdk_52_method_21_code 32 = .ok (.iinc 1 1, 3) := by decide +kernel
theorem d11_35 : decode jdk_52_method_21_code 35 = .ok (.iinc 3 1, 3) := by decide +kernel
theorem d11_38 : decode jdk_52_method_21_code 38 = .ok (.iinc 5 1, 3) := by decide +kernel
theorem d11_41 : decode jdk_52_method_21_code 41 = .ok (.goto (-38), 3) := by decide +kernel
theorem d11_44 : decode jdk_52_method_21_code 44 = .ok (.iload 4, 2) := by decide +kernel
theorem d11_46 : decode jdk_52_method_21_code 46 = .ok (.ireturn, 1) := by decide +kernel
theorem pn_0 : plainName "java/lang/StringUTF16" = true := by first | (simp [plainName, overriddenIn]; done) | decide +kernel
theorem ef_cmp5_6 (m : MethodId) (x0 : Addr) (x1 : Int32) (x2 : Addr) (x3 : Int32) (x4 : Int32) : entryFrame m #[(.ref x0), (.int x1), (.ref x2), (.int x3), (.int x4)] 7 = mkF m 0 #[rv x0, iv x1, rv x2, iv x3, iv x4, .unset, .unset] [] := by first | (simp [entryFrame, mkF, argsToLocals, Value.category]; done) | rfl
def Q_cmp5_6 (Z : State) (va : Addr) (da : Addr) (kc : ClassId) (kd : ClassId) (c0 : Int32) (c1 : Int32) (c2 : Int32) (c3 : Int32) (c4 : Int32) (c5 : Int32) (h0 : Heap) (n0 : Nat) (v : Option Value) (h : Heap) (L : List Loc) : Prop := (v = some (.int (6 : Int32))) ∧ (Fr n0 L) ∧ (Keep h0 h [da]) ∧ (Arv Z h da kd .byte (6 : Int32) [(.int (c0.toInt8.toInt32)), (.int (c1.toInt8.toInt32)), (.int (c2.toInt8.toInt32)), (.int (c3.toInt8.toInt32)), (.int (c4.toInt8.toInt32)), (.int (c5.toInt8.toInt32))] (.int (0 : Int32)))
set_option maxRecDepth 65536 in
set_option maxHeartbeats 40000000 in
theorem rm_cmp5_6 (l : Launch) (Z : State) (a0 : Array Value) (hw : ∀ d ∈ tables_1, d.before a0 Z = true) (ws : List Jvm.Cond) (va : Addr) (da : Addr) (kc : ClassId) (kd : ClassId) (c0 : Int32) (c1 : Int32) (c2 : Int32) (c3 : Int32) (c4 : Int32) (c5 : Int32) (h0 : Heap) (n0 : Nat) (O0 : Old Z n0 h0) (VA : Arv Z h0 va kc .char (6 : Int32) [(.int c0), (.int c1), (.int c2), (.int c3), (.int c4), (.int c5)] (.int (0 : Int32))) (VD : Arv Z h0 da kd .byte (6 : Int32) [(.int (0 : Int32)), (.int (0 : Int32)), (.int (0 : Int32)), (.int (0 : Int32)), (.int (0 : Int32)), (.int (0 : Int32))] (.int (0 : Int32))) (nad : va ≠ da) (fda : n0 ≤ da) (hp0 : ¬ (255 : Int32) < c0) (hp1 : ¬ (255 : Int32) < c1) (hp2 : ¬ (255 : Int32) < c2) (hp3 : ¬ (255 : Int32) < c3) (hp4 : ¬ (255 : Int32) < c4) (hp5 : ¬ (255 : Int32) < c5) :
    MetFree l own_m0 (head1 (Jvm.Cond.code own_m0 jdk_52_method_21_code 7 (some .int) :: ws) ({ frames := 0, cells := 0, slots := 0, locals := 0 } : Room)) (fun ar_ U => ar_ = #[(.ref va), (.int (0 : Int32)), (.ref da), (.int (0 : Int32)), (.int (6 : Int32))] ∧ Z.Warmed39 U.vm ∧ U.heap = h0) (fun _ _ _ _ _ => True) (fun _ U o U' => ∃ v L, o = .returned v ∧ Q_cmp5_6 Z va da kc kd c0 c1 c2 c3 c4 c5 h0 n0 v U'.heap L ∧ FrameEnd U o U' L ({ frames := 0, cells := 0, slots := 0, locals := 0 } : Room).cells ({ frames := 0, cells := 0, slots := 0, locals := 0 } : Room).slots) := by
  refine MetFree.of_bodySF (plainFor_of_name pn_0) hisR ?_
  intro p e s m args below meth c s₁ Bd hml0 hP hK
  obtain ⟨rfl, hZ, hh⟩ := hP
  have hx := Bd.exec
  have hby := Bd.bytes
  have hml : c.maxLocals = 7 := hml0
  have hown : s.vm.findClass "java/lang/StringUTF16" = some m.cls := findClass_of_methodNamed Bd.named
  have hnm := (name_of_methodNamed Bd.named Bd.method).1
  have X0 : Stand p l e ({ frames := 0, cells := 0, slots := 0, locals := 0 } : Room) s m #[(.ref va), (.int (0 : Int32)), (.ref da), (.int (0 : Int32)), (.int (6 : Int32))] below meth c s₁ [] 0 0 := Stand.of_body Bd
  have e0 : s₁.heap = h0 := by rw [← hh, Bd.state]; rfl
  have N0 := Fr.nil n0
  have hret := Bd.returns
  have hlk : meth.locks = false := Bd.notSynchronized
  show own_E p e below s ({ frames := 0, cells := 0, slots := 0, locals := 0 } : Room).cells ({ frames := 0, cells := 0, slots := 0, locals := 0 } : Room).slots (Q_cmp5_6 Z va da kc kd c0 c1 c2 c3 c4 c5 h0 n0) s₁ (entryFrame m #[(.ref va), (.int (0 : Int32)), (.ref da), (.int (0 : Int32)), (.int (6 : Int32))] 7)
  rw [ef_cmp5_6 m va (0 : Int32) da (0 : Int32) (6 : Int32)]
  refine own_st (T' := s₁) (g' := (mkF m 1 #[rv va, iv (0 : Int32), rv da, iv (0 : Int32), iv (6 : Int32), .unset, .unset] [(.int (0 : Int32))])) (fun _ k_ => XS.iconst X0.here hx rfl (hb hby d11_0) k_) ?_
  refine own_st (T' := s₁) (g' := (mkF m 3 #[rv va, iv (0 : Int32), rv da, iv (0 : Int32), iv (6 : Int32), iv (0 : Int32), .unset] [])) (fun _ k_ => XS.istore X0.here hx rfl (hb hby d11_1) rfl (l' := #[rv va, iv (0 : Int32), rv da, iv (0 : Int32), iv (6 : Int32), iv (0 : Int32), .unset]) rfl k_) ?_
  refine own_st (T' := s₁) (g' := (mkF m 5 #[rv va, iv (0 : Int32), rv da, iv (0 : Int32), iv (6 : Int32), iv (0 : Int32), .unset] [(.int (0 : Int32))])) (fun _ k_ => XS.iload X0.here hx rfl (hb hby d11_3) rfl  k_) ?_
  refine own_st (T' := s₁) (g' := (mkF m 7 #[rv va, iv (0 : Int32), rv da, iv (0 : Int32), iv (6 : Int32), iv (0 : Int32), .unset] [(.int (6 : Int32)), (.int (0 : Int32))])) (fun _ k_ => XS.iload X0.here hx rfl (hb hby d11_5) rfl  k_) ?_
  refine own_st (T' := s₁) (g' := (mkF m 10 #[rv va, iv (0 : Int32), rv da, iv (0 : Int32), iv (6 : Int32), iv (0 : Int32), .unset] [])) (fun _ k_ => XS.icmpNo X0.here hx rfl (hb hby d11_7) rfl (tlt (by decide : (0 : Int32) < (6 : Int32))).2.1 k_) ?_
  refine own_st (T' := s₁) (g' := (mkF m 11 #[rv va, iv (0 : Int32), rv da, iv (0 : Int32), iv (6 : Int32), iv (0 : Int32), .unset] [(.ref va)])) (fun _ k_ => XS.aloadN X0.here hx rfl (hb hby d11_10) rfl rfl  k_) ?_
  refine own_st (T' := s₁) (g' := (mkF m 12 #[rv va, iv (0 : Int32), rv da, iv (0 : Int32), iv (6 : Int32), iv (0 : Int32), .unset] [(.int (0 : Int32)), (.ref va)])) (fun _ k_ => XS.iloadN X0.here hx rfl (hb hby d11_11) rfl  k_) ?_
  obtain ⟨cl1, Ar1, q1, S1, N1, H1, G1⟩ := id VA
  have hin1 : ¬ ((0 : Int32) < 0 ∨ cl1.slots.size ≤ ((0 : Int32)).toNatClampNeg) := inb_of S1 ⟨by decide, by decide⟩
  refine own_st (T' := s₁) (g' := (mkF m 13 #[rv va, iv (0 : Int32), rv da, iv (0 : Int32), iv (6 : Int32), iv (0 : Int32), .unset] [(.int c0)])) (X0.caload hx (j := (0 : Int32)) (v := (.int c0)) (by rw [e0]; exact Ar1.1) (State.isArrayOf_alike hZ.alike Ar1.2.1) Ar1.2.2 hin1 (H1.at hin1 rfl) (g := (mkF m 12 #[rv va, iv (0 : Int32), rv da, iv (0 : Int32), iv (6 : Int32), iv (0 : Int32), .unset] [(.int (0 : Int32)), (.ref va)])) rfl rfl (hb hby d11_12)) ?_
  clear hin1 G1 H1 N1 S1 q1 Ar1 cl1
  refine own_st (T' := s₁) (g' := (mkF m 15 #[rv va, iv (0 : Int32), rv da, iv (0 : Int32), iv (6 : Int32), iv (0 : Int32), iv c0] [])) (fun _ k_ => XS.istore X0.here hx rfl (hb hby d11_13) rfl (l' := #[rv va, iv (0 : Int32), rv da, iv (0 : Int32), iv (6 : Int32), iv (0 : Int32), iv c0]) rfl k_) ?_
  refine own_st (T' := s₁) (g' := (mkF m 17 #[rv va, iv (0 : Int32), rv da, iv (0 : Int32), iv (6 : Int32), iv (0 : Int32), iv c0] [(.int c0)])) (fun _ k_ => XS.iload X0.here hx rfl (hb hby d11_15) rfl  k_) ?_
  refine own_st (T' := s₁) (g' := (mkF m 20 #[rv va, iv (0 : Int32), rv da, iv (0 : Int32), iv (6 : Int32), iv (0 : Int32), iv c0] [(.int (255 : Int32)), (.int c0)])) (fun _ k_ => XS.sipush X0.here hx rfl (hb hby d11_17) k_) ?_
  refine own_st (T' := s₁) (g' := (mkF m 26 #[rv va, iv (0 : Int32), rv da, iv (0 : Int32), iv (6 : Int32), iv (0 : Int32), iv c0] [])) (fun _ k_ => XS.icmpYes X0.here hx rfl (pc0 := 20) (pc' := 26) rfl (hb hby d11_20) rfl (flt (hp0 : ¬ ((255 : Int32) < c0))).2.2.2 (by decide) (by decide) k_) ?_
  refine own_st (T' := s₁) (g' := (mkF m 27 #[rv va, iv (0 : Int32), rv da, iv (0 : Int32), iv (6 : Int32), iv (0 : Int32), iv c0] [(.ref da)])) (fun _ k_ => XS.aloadN X0.here hx rfl (hb hby d11_26) rfl rfl  k_) ?_
  refine own_st (T' := s₁) (g' := (mkF m 28 #[rv va, iv (0 : Int32), rv da, iv (0 : Int32), iv (6 : Int32), iv (0 : Int32), iv c0] [(.int (0 : Int32)), (.ref da)])) (fun _ k_ => XS.iloadN X0.here hx rfl (hb hby d11_27) rfl  k_) ?_
  refine own_st (T' := s₁) (g' := (mkF m 30 #[rv va, iv (0 : Int32), rv da, iv (0 : Int32), iv (6 : Int32), iv (0 : Int32), iv c0] [(.int c0), (.int (0 : Int32)), (.ref da)])) (fun _ k_ => XS.iload X0.here hx rfl (hb hby d11_28) rfl  k_) ?_
  refine own_st (T' := s₁) (g' := (mkF m 31 #[rv va, iv (0 : Int32), rv da, iv (0 : Int32), iv (6 : Int32), iv (0 : Int32), iv c0] [(.int (c0.toInt8.toInt32)), (.int (0 : Int32)), (.ref da)])) (fun _ k_ => XS.i2b X0.here hx rfl (hb hby d11_30) rfl k_) ?_
  obtain ⟨cl2, Ar2, q2, S2, N2, H2, G2⟩ := id VD
  have hin2 : ¬ ((0 : Int32) < 0 ∨ cl2.slots.size ≤ ((0 : Int32)).toNatClampNeg) := inb_of S2 ⟨by decide, by decide⟩
  obtain ⟨T3, h3, X3, e3, W3, st3⟩ := stB X0 hx hZ e0 Ar2 (j := (0 : Int32)) hin2 (g := (mkF m 31 #[rv va, iv (0 : Int32), rv da, iv (0 : Int32), iv (6 : Int32), iv (0 : Int32), iv c0] [(.int (c0.toInt8.toInt32)), (.int (0 : Int32)), (.ref da)])) rfl rfl (hb hby d11_31)
  have V3 : Arv Z h3 da kd .byte (6 : Int32) [(.int (nar .byte (c0.toInt8.toInt32))), (.int (0 : Int32)), (.int (0 : Int32)), (.int (0 : Int32)), (.int (0 : Int32)), (.int (0 : Int32))] (.int (0 : Int32)) := Arv.set Ar2 q2 S2 N2 H2 G2 (fits_nar_byte _) W3 0 rfl (Nat.le_of_ble_eq_true rfl)
  have Vn3 : Arv Z h3 da kd .byte (6 : Int32) [(.int (c0.toInt8.toInt32)), (.int (0 : Int32)), (.int (0 : Int32)), (.int (0 : Int32)), (.int (0 : Int32)), (.int (0 : Int32))] (.int (0 : Int32)) := by simpa only [own_bb] using V3
  have Nx3 := Fr.snoc X3 N0 fda
  refine own_st (T' := T3) (g' := (mkF m 32 #[rv va, iv (0 : Int32), rv da, iv (0 : Int32), iv (6 : Int32), iv (0 : Int32), iv c0] [])) st3 ?_
  clear hin2 G2 H2 N2 S2 q2 Ar2 cl2 st3
  refine own_st (T' := T3) (g' := (mkF m 35 #[rv va, iv (1 : Int32), rv da, iv (0 : Int32), iv (6 : Int32), iv (0 : Int32), iv c0] [])) (fun _ k_ => XS.iinc X3.here hx rfl (hb hby d11_32) rfl (l' := #[rv va, iv (1 : Int32), rv da, iv (0 : Int32), iv (6 : Int32), iv (0 : Int32), iv c0]) rfl k_) ?_
  refine own_st (T' := T3) (g' := (mkF m 38 #[rv va, iv (1 : Int32), rv da, iv (1 : Int32), iv (6 : Int32), iv (0 : Int32), iv c0] [])) (fun _ k_ => XS.iinc X3.here hx rfl (hb hby d11_35) rfl (l' := #[rv va, iv (1 : Int32), rv da, iv (1 : Int32), iv (6 : Int32), iv (0 : Int32), iv c0]) rfl k_) ?_
  refine own_st (T' := T3) (g' := (mkF m 41 #[rv va, iv (1 : Int32), rv da, iv (1 : Int32), iv (6 : Int32), iv (1 : Int32), iv c0] [])) (fun _ k_ => XS.iinc X3.here hx rfl (hb hby d11_38) rfl (l' := #[rv va, iv (1 : Int32), rv da, iv (1 : Int32), iv (6 : Int32), iv (1 : Int32), iv c0]) rfl k_) ?_
  refine own_st (T' := T3) (g' := (mkF m 3 #[rv va, iv (1 : Int32), rv da, iv (1 : Int32), iv (6 : Int32), iv (1 : Int32), iv c0] [])) (fun _ k_ => XS.goto X3.here hx rfl (pc0 := 41) (pc' := 3) rfl (hb hby d11_41) (by decide) (by decide) k_) ?_
  refine own_st (T' := T3) (g' := (mkF m 5 #[rv va, iv (1 : Int32), rv da, iv (1 : Int32), iv (6 : Int32), iv (1 : Int32), iv c0] [(.int (1 : Int32))])) (fun _ k_ => XS.iload X3.here hx rfl (hb hby d11_3) rfl  k_) ?_
  refine own_st (T' := T3) (g' := (mkF m 7 #[rv va, iv (1 : Int32), rv da, iv (1 : Int32), iv (6 : Int32), iv (1 : Int32), iv c0] [(.int (6 : Int32)), (.int (1 : Int32))])) (fun _ k_ => XS.iload X3.here hx rfl (hb hby d11_5) rfl  k_) ?_
  refine own_st (T' := T3) (g' := (mkF m 10 #[rv va, iv (1 : Int32), rv da, iv (1 : Int32), iv (6 : Int32), iv (1 : Int32), iv c0] [])) (fun _ k_ => XS.icmpNo X3.here hx rfl (hb hby d11_7) rfl (tlt (by decide : (1 : Int32) < (6 : Int32))).2.1 k_) ?_
  refine own_st (T' := T3) (g' := (mkF m 11 #[rv va, iv (1 : Int32), rv da, iv (1 : Int32), iv (6 : Int32), iv (1 : Int32), iv c0] [(.ref va)])) (fun _ k_ => XS.aloadN X3.here hx rfl (hb hby d11_10) rfl rfl  k_) ?_
  refine own_st (T' := T3) (g' := (mkF m 12 #[rv va, iv (1 : Int32), rv da, iv (1 : Int32), iv (6 : Int32), iv (1 : Int32), iv c0] [(.int (1 : Int32)), (.ref va)])) (fun _ k_ => XS.iloadN X3.here hx rfl (hb hby d11_11) rfl  k_) ?_
  have f4 : Arv Z h3 va kc .char (6 : Int32) [(.int c0), (.int c1), (.int c2), (.int c3), (.int c4), (.int c5)] (.int (0 : Int32)) := VA.other W3 nad
  obtain ⟨cl5, Ar5, q5, S5, N5, H5, G5⟩ := id f4
  have hin5 : ¬ ((1 : Int32) < 0 ∨ cl5.slots.size ≤ ((1 : Int32)).toNatClampNeg) := inb_of S5 ⟨by decide, by decide⟩
  refine own_st (T' := T3) (g' := (mkF m 13 #[rv va, iv (1 : Int32), rv da, iv (1 : Int32), iv (6 : Int32), iv (1 : Int32), iv c0] [(.int c1)])) (X3.caload hx (j := (1 : Int32)) (v := (.int c1)) (by rw [e3]; exact Ar5.1) (State.isArrayOf_alike hZ.alike Ar5.2.1) Ar5.2.2 hin5 (H5.at hin5 rfl) (g := (mkF m 12 #[rv va, iv (1 : Int32), rv da, iv (1 : Int32), iv (6 : Int32), iv (1 : Int32), iv c0] [(.int (1 : Int32)), (.ref va)])) rfl rfl (hb hby d11_12)) ?_
  clear hin5 G5 H5 N5 S5 q5 Ar5 cl5
  refine own_st (T' := T3) (g' := (mkF m 15 #[rv va, iv (1 : Int32), rv da, iv (1 : Int32), iv (6 : Int32), iv (1 : Int32), iv c1] [])) (fun _ k_ => XS.istore X3.here hx rfl (hb hby d11_13) rfl (l' := #[rv va, iv (1 : Int32), rv da, iv (1 : Int32), iv (6 : Int32), iv (1 : Int32), iv c1]) rfl k_) ?_
  refine own_st (T' := T3) (g' := (mkF m 17 #[rv va, iv (1 : Int32), rv da, iv (1 : Int32), iv (6 : Int32), iv (1 : Int32), iv c1] [(.int c1)])) (fun _ k_ => XS.iload X3.here hx rfl (hb hby d11_15) rfl  k_) ?_
  refine own_st (T' := T3) (g' := (mkF m 20 #[rv va, iv (1 : Int32), rv da, iv (1 : Int32), iv (6 : Int32), iv (1 : Int32), iv c1] [(.int (255 : Int32)), (.int c1)])) (fun _ k_ => XS.sipush X3.here hx rfl (hb hby d11_17) k_) ?_
  refine own_st (T' := T3) (g' := (mkF m 26 #[rv va, iv (1 : Int32), rv da, iv (1 : Int32), iv (6 : Int32), iv (1 : Int32), iv c1] [])) (fun _ k_ => XS.icmpYes X3.here hx rfl (pc0 := 20) (pc' := 26) rfl (hb hby d11_20) rfl (flt (hp1 : ¬ ((255 : Int32) < c1))).2.2.2 (by decide) (by decide) k_) ?_
  refine own_st (T' := T3) (g' := (mkF m 27 #[rv va, iv (1 : Int32), rv da, iv (1 : Int32), iv (6 : Int32), iv (1 : Int32), iv c1] [(.ref da)])) (fun _ k_ => XS.aloadN X3.here hx rfl (hb hby d11_26) rfl rfl  k_) ?_
  refine own_st (T' := T3) (g' := (mkF m 28 #[rv va, iv (1 : Int32), rv da, iv (1 : Int32), iv (6 : Int32), iv (1 : Int32), iv c1] [(.int (1 : Int32)), (.ref da)])) (fun _ k_ => XS.iloadN X3.here hx rfl (hb hby d11_27) rfl  k_) ?_
  refine own_st (T' := T3) (g' := (mkF m 30 #[rv va, iv (1 : Int32), rv da, iv (1 : Int32), iv (6 : Int32), iv (1 : Int32), iv c1] [(.int c1), (.int (1 : Int32)), (.ref da)])) (fun _ k_ => XS.iload X3.here hx rfl (hb hby d11_28) rfl  k_) ?_
  refine own_st (T' := T3) (g' := (mkF m 31 #[rv va, iv (1 : Int32), rv da, iv (1 : Int32), iv (6 : Int32), iv (1 : Int32), iv c1] [(.int (c1.toInt8.toInt32)), (.int (1 : Int32)), (.ref da)])) (fun _ k_ => XS.i2b X3.here hx rfl (hb hby d11_30) rfl k_) ?_
  obtain ⟨cl6, Ar6, q6, S6, N6, H6, G6⟩ := id Vn3
  have hin6 : ¬ ((1 : Int32) < 0 ∨ cl6.slots.size ≤ ((1 : Int32)).toNatClampNeg) := inb_of S6 ⟨by decide, by decide⟩
  obtain ⟨T7, h7, X7, e7, W7, st7⟩ := stB X3 hx hZ e3 Ar6 (j := (1 : Int32)) hin6 (g := (mkF m 31 #[rv va, iv (1 : Int32), rv da, iv (1 : Int32), iv (6 : Int32), iv (1 : Int32), iv c1] [(.int (c1.toInt8.toInt32)), (.int (1 : Int32)), (.ref da)])) rfl rfl (hb hby d11_31)
  have V7 : Arv Z h7 da kd .byte (6 : Int32) [(.int (c0.toInt8.toInt32)), (.int (nar .byte (c1.toInt8.toInt32))), (.int (0 : Int32)), (.int (0 : Int32)), (.int (0 : Int32)), (.int (0 : Int32))] (.int (0 : Int32)) := Arv.set Ar6 q6 S6 N6 H6 G6 (fits_nar_byte _) W7 1 rfl (Nat.le_of_ble_eq_true rfl)
  have Vn7 : Arv Z h7 da kd .byte (6 : Int32) [(.int (c0.toInt8.toInt32)), (.int (c1.toInt8.toInt32)), (.int (0 : Int32)), (.int (0 : Int32)), (.int (0 : Int32)), (.int (0 : Int32))] (.int (0 : Int32)) := by simpa only [own_bb] using V7
  have Nx7 := Fr.snoc X7 Nx3 fda
  refine own_st (T' := T7) (g' := (mkF m 32 #[rv va, iv (1 : Int32), rv da, iv (1 : Int32), iv (6 : Int32), iv (1 : Int32), iv c1] [])) st7 ?_
  clear hin6 G6 H6 N6 S6 q6 Ar6 cl6 st7
  refine own_st (T' := T7) (g' := (mkF m 35 #[rv va, iv (2 : Int32), rv da, iv (1 : Int32), iv (6 : Int32), iv (1 : Int32), iv c1] [])) (fun _ k_ => XS.iinc X7.here hx rfl (hb hby d11_32) rfl (l' := #[rv va, iv (2 : Int32), rv da, iv (1 : Int32), iv (6 : Int32), iv (1 : Int32), iv c1]) rfl k_) ?_
  refine own_st (T' := T7) (g' := (mkF m 38 #[rv va, iv (2 : Int32), rv da, iv (2 : Int32), iv (6 : Int32), iv (1 : Int32), iv c1] [])) (fun _ k_ => XS.iinc X7.here hx rfl (hb hby d11_35) rfl (l' := #[rv va, iv (2 : Int32), rv da, iv (2 : Int32), iv (6 : Int32), iv (1 : Int32), iv c1]) rfl k_) ?_
  refine own_st (T' := T7) (g' := (mkF m 41 #[rv va, iv (2 : Int32), rv da, iv (2 : Int32), iv (6 : Int32), iv (2 : Int32), iv c1] [])) (fun _ k_ => XS.iinc X7.here hx rfl (hb hby d11_38) rfl (l' := #[rv va, iv (2 : Int32), rv da, iv (2 : Int32), iv (6 : Int32), iv (2 : Int32), iv c1]) rfl k_) ?_
  refine own_st (T' := T7) (g' := (mkF m 3 #[rv va, iv (2 : Int32), rv da, iv (2 : Int32), iv (6 : Int32), iv (2 : Int32), iv c1] [])) (fun _ k_ => XS.goto X7.here hx rfl (pc0 := 41) (pc' := 3) rfl (hb hby d11_41) (by decide) (by decide) k_) ?_
  refine own_st (T' := T7) (g' := (mkF m 5 #[rv va, iv (2 : Int32), rv da, iv (2 : Int32), iv (6 : Int32), iv (2 : Int32), iv c1] [(.int (2 : Int32))])) (fun _ k_ => XS.iload X7.here hx rfl (hb hby d11_3) rfl  k_) ?_
  refine own_st (T' := T7) (g' := (mkF m 7 #[rv va, iv (2 : Int32), rv da, iv (2 : Int32), iv (6 : Int32), iv (2 : Int32), iv c1] [(.int (6 : Int32)), (.int (2 : Int32))])) (fun _ k_ => XS.iload X7.here hx rfl (hb hby d11_5) rfl  k_) ?_
  refine own_st (T' := T7) (g' := (mkF m 10 #[rv va, iv (2 : Int32), rv da, iv (2 : Int32), iv (6 : Int32), iv (2 : Int32), iv c1] [])) (fun _ k_ => XS.icmpNo X7.here hx rfl (hb hby d11_7) rfl (tlt (by decide : (2 : Int32) < (6 : Int32))).2.1 k_) ?_
  refine own_st (T' := T7) (g' := (mkF m 11 #[rv va, iv (2 : Int32), rv da, iv (2 : Int32), iv (6 : Int32), iv (2 : Int32), iv c1] [(.ref va)])) (fun _ k_ => XS.aloadN X7.here hx rfl (hb hby d11_10) rfl rfl  k_) ?_
  refine own_st (T' := T7) (g' := (mkF m 12 #[rv va, iv (2 : Int32), rv da, iv (2 : Int32), iv (6 : Int32), iv (2 : Int32), iv c1] [(.int (2 : Int32)), (.ref va)])) (fun _ k_ => XS.iloadN X7.here hx rfl (hb hby d11_11) rfl  k_) ?_
  have f8 : Arv Z h7 va kc .char (6 : Int32) [(.int c0), (.int c1), (.int c2), (.int c3), (.int c4), (.int c5)] (.int (0 : Int32)) := f4.other W7 nad
  obtain ⟨cl9, Ar9, q9, S9, N9, H9, G9⟩ := id f8
  have hin9 : ¬ ((2 : Int32) < 0 ∨ cl9.slots.size ≤ ((2 : Int32)).toNatClampNeg) := inb_of S9 ⟨by decide, by decide⟩
  refine own_st (T' := T7) (g' := (mkF m 13 #[rv va, iv (2 : Int32), rv da, iv (2 : Int32), iv (6 : Int32), iv (2 : Int32), iv c1] [(.int c2)])) (X7.caload hx (j := (2 : Int32)) (v := (.int c2)) (by rw [e7]; exact Ar9.1) (State.isArrayOf_alike hZ.alike Ar9.2.1) Ar9.2.2 hin9 (H9.at hin9 rfl) (g := (mkF m 12 #[rv va, iv (2 : Int32), rv da, iv (2 : Int32), iv (6 : Int32), iv (2 : Int32), iv c1] [(.int (2 : Int32)), (.ref va)])) rfl rfl (hb hby d11_12)) ?_
  clear hin9 G9 H9 N9 S9 q9 Ar9 cl9
  refine own_st (T' := T7) (g' := (mkF m 15 #[rv va, iv (2 : Int32), rv da, iv (2 : Int32), iv (6 : Int32), iv (2 : Int32), iv c2] [])) (fun _ k_ => XS.istore X7.here hx rfl (hb hby d11_13) rfl (l' := #[rv va, iv (2 : Int32), rv da, iv (2 : Int32), iv (6 : Int32), iv (2 : Int32), iv c2]) rfl k_) ?_
  refine own_st (T' := T7) (g' := (mkF m 17 #[rv va, iv (2 : Int32), rv da, iv (2 : Int32), iv (6 : Int32), iv (2 : Int32), iv c2] [(.int c2)])) (fun _ k_ => XS.iload X7.here hx rfl (hb hby d11_15) rfl  k_) ?_
  refine own_st (T' := T7) (g' := (mkF m 20 #[rv va, iv (2 : Int32), rv da, iv (2 : Int32), iv (6 : Int32), iv (2 : Int32), iv c2] [(.int (255 : Int32)), (.int c2)])) (fun _ k_ => XS.sipush X7.here hx rfl (hb hby d11_17) k_) ?_
  refine own_st (T' := T7) (g' := (mkF m 26 #[rv va, iv (2 : Int32), rv da, iv (2 : Int32), iv (6 : Int32), iv (2 : Int32), iv c2] [])) (fun _ k_ => XS.icmpYes X7.here hx rfl (pc0 := 20) (pc' := 26) rfl (hb hby d11_20) rfl (flt (hp2 : ¬ ((255 : Int32) < c2))).2.2.2 (by decide) (by decide) k_) ?_
  refine own_st (T' := T7) (g' := (mkF m 27 #[rv va, iv (2 : Int32), rv da, iv (2 : Int32), iv (6 : Int32), iv (2 : Int32), iv c2] [(.ref da)])) (fun _ k_ => XS.aloadN X7.here hx rfl (hb hby d11_26) rfl rfl  k_) ?_
  refine own_st (T' := T7) (g' := (mkF m 28 #[rv va, iv (2 : Int32), rv da, iv (2 : Int32), iv (6 : Int32), iv (2 : Int32), iv c2] [(.int (2 : Int32)), (.ref da)])) (fun _ k_ => XS.iloadN X7.here hx rfl (hb hby d11_27) rfl  k_) ?_
  refine own_st (T' := T7) (g' := (mkF m 30 #[rv va, iv (2 : Int32), rv da, iv (2 : Int32), iv (6 : Int32), iv (2 : Int32), iv c2] [(.int c2), (.int (2 : Int32)), (.ref da)])) (fun _ k_ => XS.iload X7.here hx rfl (hb hby d11_28) rfl  k_) ?_
  refine own_st (T' := T7) (g' := (mkF m 31 #[rv va, iv (2 : Int32), rv da, iv (2 : Int32), iv (6 : Int32), iv (2 : Int32), iv c2] [(.int (c2.toInt8.toInt32)), (.int (2 : Int32)), (.ref da)])) (fun _ k_ => XS.i2b X7.here hx rfl (hb hby d11_30) rfl k_) ?_
  obtain ⟨cl10, Ar10, q10, S10, N10, H10, G10⟩ := id Vn7
  have hin10 : ¬ ((2 : Int32) < 0 ∨ cl10.slots.size ≤ ((2 : Int32)).toNatClampNeg) := inb_of S10 ⟨by decide, by decide⟩
  obtain ⟨T11, h11, X11, e11, W11, st11⟩ := stB X7 hx hZ e7 Ar10 (j := (2 : Int32)) hin10 (g := (mkF m 31 #[rv va, iv (2 : Int32), rv da, iv (2 : Int32), iv (6 : Int32), iv (2 : Int32), iv c2] [(.int (c2.toInt8.toInt32)), (.int (2 : Int32)), (.ref da)])) rfl rfl (hb hby d11_31)
  have V11 : Arv Z h11 da kd .byte (6 : Int32) [(.int (c0.toInt8.toInt32)), (.int (c1.toInt8.toInt32)), (.int (nar .byte (c2.toInt8.toInt32))), (.int (0 : Int32)), (.int (0 : Int32)), (.int (0 : Int32))] (.int (0 : Int32)) := Arv.set Ar10 q10 S10 N10 H10 G10 (fits_nar_byte _) W11 2 rfl (Nat.le_of_ble_eq_true rfl)
  have Vn11 : Arv Z h11 da kd .byte (6 : Int32) [(.int (c0.toInt8.toInt32)), (.int (c1.toInt8.toInt32)), (.int (c2.toInt8.toInt32)), (.int (0 : Int32)), (.int (0 : Int32)), (.int (0 : Int32))] (.int (0 : Int32)) := by simpa only [own_bb] using V11
  have Nx11 := Fr.snoc X11 Nx7 fda
  refine own_st (T' := T11) (g' := (mkF m 32 #[rv va, iv (2 : Int32), rv da, iv (2 : Int32), iv (6 : Int32), iv (2 : Int32), iv c2] [])) st11 ?_
  clear hin10 G10 H10 N10 S10 q10 Ar10 cl10 st11
  refine own_st (T' := T11) (g' := (mkF m 35 #[rv va, iv (3 : Int32), rv da, iv (2 : Int32), iv (6 : Int32), iv (2 : Int32), iv c2] [])) (fun _ k_ => XS.iinc X11.here hx rfl (hb hby d11_32) rfl (l' := #[rv va, iv (3 : Int32), rv da, iv (2 : Int32), iv (6 : Int32), iv (2 : Int32), iv c2]) rfl k_) ?_
  refine own_st (T' := T11) (g' := (mkF m 38 #[rv va, iv (3 : Int32), rv da, iv (3 : Int32), iv (6 : Int32), iv (2 : Int32), iv c2] [])) (fun _ k_ => XS.iinc X11.here hx rfl (hb hby d11_35) rfl (l' := #[rv va, iv (3 : Int32), rv da, iv (3 : Int32), iv (6 : Int32), iv (2 : Int32), iv c2]) rfl k_) ?_
  refine own_st (T' := T11) (g' := (mkF m 41 #[rv va, iv (3 : Int32), rv da, iv (3 : Int32), iv (6 : Int32), iv (3 : Int32), iv c2] [])) (fun _ k_ => XS.iinc X11.here hx rfl (hb hby d11_38) rfl (l' := #[rv va, iv (3 : Int32), rv da, iv (3 : Int32), iv (6 : Int32), iv (3 : Int32), iv c2]) rfl k_) ?_
  refine own_st (T' := T11) (g' := (mkF m 3 #[rv va, iv (3 : Int32), rv da, iv (3 : Int32), iv (6 : Int32), iv (3 : Int32), iv c2] [])) (fun _ k_ => XS.goto X11.here hx rfl (pc0 := 41) (pc' := 3) rfl (hb hby d11_41) (by decide) (by decide) k_) ?_
  refine own_st (T' := T11) (g' := (mkF m 5 #[rv va, iv (3 : Int32), rv da, iv (3 : Int32), iv (6 : Int32), iv (3 : Int32), iv c2] [(.int (3 : Int32))])) (fun _ k_ => XS.iload X11.here hx rfl (hb hby d11_3) rfl  k_) ?_
  refine own_st (T' := T11) (g' := (mkF m 7 #[rv va, iv (3 : Int32), rv da, iv (3 : Int32), iv (6 : Int32), iv (3 : Int32), iv c2] [(.int (6 : Int32)), (.int (3 : Int32))])) (fun _ k_ => XS.iload X11.here hx rfl (hb hby d11_5) rfl  k_) ?_
  refine own_st (T' := T11) (g' := (mkF m 10 #[rv va, iv (3 : Int32), rv da, iv (3 : Int32), iv (6 : Int32), iv (3 : Int32), iv c2] [])) (fun _ k_ => XS.icmpNo X11.here hx rfl (hb hby d11_7) rfl (tlt (by decide : (3 : Int32) < (6 : Int32))).2.1 k_) ?_
  refine own_st (T' := T11) (g' := (mkF m 11 #[rv va, iv (3 : Int32), rv da, iv (3 : Int32), iv (6 : Int32), iv (3 : Int32), iv c2] [(.ref va)])) (fun _ k_ => XS.aloadN X11.here hx rfl (hb hby d11_10) rfl rfl  k_) ?_
  refine own_st (T' := T11) (g' := (mkF m 12 #[rv va, iv (3 : Int32), rv da, iv (3 : Int32), iv (6 : Int32), iv (3 : Int32), iv c2] [(.int (3 : Int32)), (.ref va)])) (fun _ k_ => XS.iloadN X11.here hx rfl (hb hby d11_11) rfl  k_) ?_
  have f12 : Arv Z h11 va kc .char (6 : Int32) [(.int c0), (.int c1), (.int c2), (.int c3), (.int c4), (.int c5)] (.int (0 : Int32)) := f8.other W11 nad
  obtain ⟨cl13, Ar13, q13, S13, N13, H13, G13⟩ := id f12
  have hin13 : ¬ ((3 : Int32) < 0 ∨ cl13.slots.size ≤ ((3 : Int32)).toNatClampNeg) := inb_of S13 ⟨by decide, by decide⟩
  refine own_st (T' := T11) (g' := (mkF m 13 #[rv va, iv (3 : Int32), rv da, iv (3 : Int32), iv (6 : Int32), iv (3 : Int32), iv c2] [(.int c3)])) (X11.caload hx (j := (3 : Int32)) (v := (.int c3)) (by rw [e11]; exact Ar13.1) (State.isArrayOf_alike hZ.alike Ar13.2.1) Ar13.2.2 hin13 (H13.at hin13 rfl) (g := (mkF m 12 #[rv va, iv (3 : Int32), rv da, iv (3 : Int32), iv (6 : Int32), iv (3 : Int32), iv c2] [(.int (3 : Int32)), (.ref va)])) rfl rfl (hb hby d11_12)) ?_
  clear hin13 G13 H13 N13 S13 q13 Ar13 cl13
  refine own_st (T' := T11) (g' := (mkF m 15 #[rv va, iv (3 : Int32), rv da, iv (3 : Int32), iv (6 : Int32), iv (3 : Int32), iv c3] [])) (fun _ k_ => XS.istore X11.here hx rfl (hb hby d11_13) rfl (l' := #[rv va, iv (3 : Int32), rv da, iv (3 : Int32), iv (6 : Int32), iv (3 : Int32), iv c3]) rfl k_) ?_
  refine own_st (T' := T11) (g' := (mkF m 17 #[rv va, iv (3 : Int32), rv da, iv (3 : Int32), iv (6 : Int32), iv (3 : Int32), iv c3] [(.int c3)])) (fun _ k_ => XS.iload X11.here hx rfl (hb hby d11_15) rfl  k_) ?_
  refine own_st (T' := T11) (g' := (mkF m 20 #[rv va, iv (3 : Int32), rv da, iv (3 : Int32), iv (6 : Int32), iv (3 : Int32), iv c3] [(.int (255 : Int32)), (.int c3)])) (fun _ k_ => XS.sipush X11.here hx rfl (hb hby d11_17) k_) ?_
  refine own_st (T' := T11) (g' := (mkF m 26 #[rv va, iv (3 : Int32), rv da, iv (3 : Int32), iv (6 : Int32), iv (3 : Int32), iv c3] [])) (fun _ k_ => XS.icmpYes X11.here hx rfl (pc0 := 20) (pc' := 26) rfl (hb hby d11_20) rfl (flt (hp3 : ¬ ((255 : Int32) < c3))).2.2.2 (by decide) (by decide) k_) ?_
  refine own_st (T' := T11) (g' := (mkF m 27 #[rv va, iv (3 : Int32), rv da, iv (3 : Int32), iv (6 : Int32), iv (3 : Int32), iv c3] [(.ref da)])) (fun _ k_ => XS.aloadN X11.here hx rfl (hb hby d11_26) rfl rfl  k_) ?_
  refine own_st (T' := T11) (g' := (mkF m 28 #[rv va, iv (3 : Int32), rv da, iv (3 : Int32), iv (6 : Int32), iv (3 : Int32), iv c3] [(.int (3 : Int32)), (.ref da)])) (fun _ k_ => XS.iloadN X11.here hx rfl (hb hby d11_27) rfl  k_) ?_
  refine own_st (T' := T11) (g' := (mkF m 30 #[rv va, iv (3 : Int32), rv da, iv (3 : Int32), iv (6 : Int32), iv (3 : Int32), iv c3] [(.int c3), (.int (3 : Int32)), (.ref da)])) (fun _ k_ => XS.iload X11.here hx rfl (hb hby d11_28) rfl  k_) ?_
  refine own_st (T' := T11) (g' := (mkF m 31 #[rv va, iv (3 : Int32), rv da, iv (3 : Int32), iv (6 : Int32), iv (3 : Int32), iv c3] [(.int (c3.toInt8.toInt32)), (.int (3 : Int32)), (.ref da)])) (fun _ k_ => XS.i2b X11.here hx rfl (hb hby d11_30) rfl k_) ?_
  obtain ⟨cl14, Ar14, q14, S14, N14, H14, G14⟩ := id Vn11
  have hin14 : ¬ ((3 : Int32) < 0 ∨ cl14.slots.size ≤ ((3 : Int32)).toNatClampNeg) := inb_of S14 ⟨by decide, by decide⟩
  obtain ⟨T15, h15, X15, e15, W15, st15⟩ := stB X11 hx hZ e11 Ar14 (j := (3 : Int32)) hin14 (g := (mkF m 31 #[rv va, iv (3 : Int32), rv da, iv (3 : Int32), iv (6 : Int32), iv (3 : Int32), iv c3] [(.int (c3.toInt8.toInt32)), (.int (3 : Int32)), (.ref da)])) rfl rfl (hb hby d11_31)
  have V15 : Arv Z h15 da kd .byte (6 : Int32) [(.int (c0.toInt8.toInt32)), (.int (c1.toInt8.toInt32)), (.int (c2.toInt8.toInt32)), (.int (nar .byte (c3.toInt8.toInt32))), (.int (0 : Int32)), (.int (0 : Int32))] (.int (0 : Int32)) := Arv.set Ar14 q14 S14 N14 H14 G14 (fits_nar_byte _) W15 3 rfl (Nat.le_of_ble_eq_true rfl)
  have Vn15 : Arv Z h15 da kd .byte (6 : Int32) [(.int (c0.toInt8.toInt32)), (.int (c1.toInt8.toInt32)), (.int (c2.toInt8.toInt32)), (.int (c3.toInt8.toInt32)), (.int (0 : Int32)), (.int (0 : Int32))] (.int (0 : Int32)) := by simpa only [own_bb] using V15
  have Nx15 := Fr.snoc X15 Nx11 fda
  refine own_st (T' := T15) (g' := (mkF m 32 #[rv va, iv (3 : Int32), rv da, iv (3 : Int32), iv (6 : Int32), iv (3 : Int32), iv c3] [])) st15 ?_
  clear hin14 G14 H14 N14 S14 q14 Ar14 cl14 st15
  refine own_st (T' := T15) (g' := (mkF m 35 #[rv va, iv (4 : Int32), rv da, iv (3 : Int32), iv (6 : Int32), iv (3 : Int32), iv c3] [])) (fun _ k_ => XS.iinc X15.here hx rfl (hb hby d11_32) rfl (l' := #[rv va, iv (4 : Int32), rv da, iv (3 : Int32), iv (6 : Int32), iv (3 : Int32), iv c3]) rfl k_) ?_
  refine own_st (T' := T15) (g' := (mkF m 38 #[rv va, iv (4 : Int32), rv da, iv (4 : Int32), iv (6 : Int32), iv (3 : Int32), iv c3] [])) (fun _ k_ => XS.iinc X15.here hx rfl (hb hby d11_35) rfl (l' := #[rv va, iv (4 : Int32), rv da, iv (4 : Int32), iv (6 : Int32), iv (3 : Int32), iv c3]) rfl k_) ?_
  refine own_st (T' := T15) (g' := (mkF m 41 #[rv va, iv (4 : Int32), rv da, iv (4 : Int32), iv (6 : Int32), iv (4 : Int32), iv c3] [])) (fun _ k_ => XS.iinc X15.here hx rfl (hb hby d11_38) rfl (l' := #[rv va, iv (4 : Int32), rv da, iv (4 : Int32), iv (6 : Int32), iv (4 : Int32), iv c3]) rfl k_) ?_
  refine own_st (T' := T15) (g' := (mkF m 3 #[rv va, iv (4 : Int32), rv da, iv (4 : Int32), iv (6 : Int32), iv (4 : Int32), iv c3] [])) (fun _ k_ => XS.goto X15.here hx rfl (pc0 := 41) (pc' := 3) rfl (hb hby d11_41) (by decide) (by decide) k_) ?_
  refine own_st (T' := T15) (g' := (mkF m 5 #[rv va, iv (4 : Int32), rv da, iv (4 : Int32), iv (6 : Int32), iv (4 : Int32), iv c3] [(.int (4 : Int32))])) (fun _ k_ => XS.iload X15.here hx rfl (hb hby d11_3) rfl  k_) ?_
  refine own_st (T' := T15) (g' := (mkF m 7 #[rv va, iv (4 : Int32), rv da, iv (4 : Int32), iv (6 : Int32), iv (4 : Int32), iv c3] [(.int (6 : Int32)), (.int (4 : Int32))])) (fun _ k_ => XS.iload X15.here hx rfl (hb hby d11_5) rfl  k_) ?_
  refine own_st (T' := T15) (g' := (mkF m 10 #[rv va, iv (4 : Int32), rv da, iv (4 : Int32), iv (6 : Int32), iv (4 : Int32), iv c3] [])) (fun _ k_ => XS.icmpNo X15.here hx rfl (hb hby d11_7) rfl (tlt (by decide : (4 : Int32) < (6 : Int32))).2.1 k_) ?_
  refine own_st (T' := T15) (g' := (mkF m 11 #[rv va, iv (4 : Int32), rv da, iv (4 : Int32), iv (6 : Int32), iv (4 : Int32), iv c3] [(.ref va)])) (fun _ k_ => XS.aloadN X15.here hx rfl (hb hby d11_10) rfl rfl  k_) ?_
  refine own_st (T' := T15) (g' := (mkF m 12 #[rv va, iv (4 : Int32), rv da, iv (4 : Int32), iv (6 : Int32), iv (4 : Int32), iv c3] [(.int (4 : Int32)), (.ref va)])) (fun _ k_ => XS.iloadN X15.here hx rfl (hb hby d11_11) rfl  k_) ?_
  have f16 : Arv Z h15 va kc .char (6 : Int32) [(.int c0), (.int c1), (.int c2), (.int c3), (.int c4), (.int c5)] (.int (0 : Int32)) := f12.other W15 nad
  obtain ⟨cl17, Ar17, q17, S17, N17, H17, G17⟩ := id f16
  have hin17 : ¬ ((4 : Int32) < 0 ∨ cl17.slots.size ≤ ((4 : Int32)).toNatClampNeg) := inb_of S17 ⟨by decide, by decide⟩
  refine own_st (T' := T15) (g' := (mkF m 13 #[rv va, iv (4 : Int32), rv da, iv (4 : Int32), iv (6 : Int32), iv (4 : Int32), iv c3] [(.int c4)])) (X15.caload hx (j := (4 : Int32)) (v := (.int c4)) (by rw [e15]; exact Ar17.1) (State.isArrayOf_alike hZ.alike Ar17.2.1) Ar17.2.2 hin17 (H17.at hin17 rfl) (g := (mkF m 12 #[rv va, iv (4 : Int32), rv da, iv (4 : Int32), iv (6 : Int32), iv (4 : Int32), iv c3] [(.int (4 : Int32)), (.ref va)])) rfl rfl (hb hby d11_12)) ?_
  clear hin17 G17 H17 N17 S17 q17 Ar17 cl17
  refine own_st (T' := T15) (g' := (mkF m 15 #[rv va, iv (4 : Int32), rv da, iv (4 : Int32), iv (6 : Int32), iv (4 : Int32), iv c4] [])) (fun _ k_ => XS.istore X15.here hx rfl (hb hby d11_13) rfl (l' := #[rv va, iv (4 : Int32), rv da, iv (4 : Int32), iv (6 : Int32), iv (4 : Int32), iv c4]) rfl k_) ?_
  refine own_st (T' := T15) (g' := (mkF m 17 #[rv va, iv (4 : Int32), rv da, iv (4 : Int32), iv (6 : Int32), iv (4 : Int32), iv c4] [(.int c4)])) (fun _ k_ => XS.iload X15.here hx rfl (hb hby d11_15) rfl  k_) ?_
  refine own_st (T' := T15) (g' := (mkF m 20 #[rv va, iv (4 : Int32), rv da, iv (4 : Int32), iv (6 : Int32), iv (4 : Int32), iv c4] [(.int (255 : Int32)), (.int c4)])) (fun _ k_ => XS.sipush X15.here hx rfl (hb hby d11_17) k_) ?_
  refine own_st (T' := T15) (g' := (mkF m 26 #[rv va, iv (4 : Int32), rv da, iv (4 : Int32), iv (6 : Int32), iv (4 : Int32), iv c4] [])) (fun _ k_ => XS.icmpYes X15.here hx rfl (pc0 := 20) (pc' := 26) rfl (hb hby d11_20) rfl (flt (hp4 : ¬ ((255 : Int32) < c4))).2.2.2 (by decide) (by decide) k_) ?_
  refine own_st (T' := T15) (g' := (mkF m 27 #[rv va, iv (4 : Int32), rv da, iv (4 : Int32), iv (6 : Int32), iv (4 : Int32), iv c4] [(.ref da)])) (fun _ k_ => XS.aloadN X15.here hx rfl (hb hby d11_26) rfl rfl  k_) ?_
  refine own_st (T' := T15) (g' := (mkF m 28 #[rv va, iv (4 : Int32), rv da, iv (4 : Int32), iv (6 : Int32), iv (4 : Int32), iv c4] [(.int (4 : Int32)), (.ref da)])) (fun _ k_ => XS.iloadN X15.here hx rfl (hb hby d11_27) rfl  k_) ?_
  refine own_st (T' := T15) (g' := (mkF m 30 #[rv va, iv (4 : Int32), rv da, iv (4 : Int32), iv (6 : Int32), iv (4 : Int32), iv c4] [(.int c4), (.int (4 : Int32)), (.ref da)])) (fun _ k_ => XS.iload X15.here hx rfl (hb hby d11_28) rfl  k_) ?_
  refine own_st (T' := T15) (g' := (mkF m 31 #[rv va, iv (4 : Int32), rv da, iv (4 : Int32), iv (6 : Int32), iv (4 : Int32), iv c4] [(.int (c4.toInt8.toInt32)), (.int (4 : Int32)), (.ref da)])) (fun _ k_ => XS.i2b X15.here hx rfl (hb hby d11_30) rfl k_) ?_
  obtain ⟨cl18, Ar18, q18, S18, N18, H18, G18⟩ := id Vn15
  have hin18 : ¬ ((4 : Int32) < 0 ∨ cl18.slots.size ≤ ((4 : Int32)).toNatClampNeg) := inb_of S18 ⟨by decide, by decide⟩
  obtain ⟨T19, h19, X19, e19, W19, st19⟩ := stB X15 hx hZ e15 Ar18 (j := (4 : Int32)) hin18 (g := (mkF m 31 #[rv va, iv (4 : Int32), rv da, iv (4 : Int32), iv (6 : Int32), iv (4 : Int32), iv c4] [(.int (c4.toInt8.toInt32)), (.int (4 : Int32)), (.ref da)])) rfl rfl (hb hby d11_31)
  have V19 : Arv Z h19 da kd .byte (6 : Int32) [(.int (c0.toInt8.toInt32)), (.int (c1.toInt8.toInt32)), (.int (c2.toInt8.toInt32)), (.int (c3.toInt8.toInt32)), (.int (nar .byte (c4.toInt8.toInt32))), (.int (0 : Int32))] (.int (0 : Int32)) := Arv.set Ar18 q18 S18 N18 H18 G18 (fits_nar_byte _) W19 4 rfl (Nat.le_of_ble_eq_true rfl)
  have Vn19 : Arv Z h19 da kd .byte (6 : Int32) [(.int (c0.toInt8.toInt32)), (.int (c1.toInt8.toInt32)), (.int (c2.toInt8.toInt32)), (.int (c3.toInt8.toInt32)), (.int (c4.toInt8.toInt32)), (.int (0 : Int32))] (.int (0 : Int32)) := by simpa only [own_bb] using V19
  have Nx19 := Fr.snoc X19 Nx15 fda
  refine own_st (T' := T19) (g' := (mkF m 32 #[rv va, iv (4 : Int32), rv da, iv (4 : Int32), iv (6 : Int32), iv (4 : Int32), iv c4] [])) st19 ?_
  clear hin18 G18 H18 N18 S18 q18 Ar18 cl18 st19
  refine own_st (T' := T19) (g' := (mkF m 35 #[rv va, iv (5 : Int32), rv da, iv (4 : Int32), iv (6 : Int32), iv (4 : Int32), iv c4] [])) (fun _ k_ => XS.iinc X19.here hx rfl (hb hby d11_32) rfl (l' := #[rv va, iv (5 : Int32), rv da, iv (4 : Int32), iv (6 : Int32), iv (4 : Int32), iv c4]) rfl k_) ?_
  refine own_st (T' := T19) (g' := (mkF m 38 #[rv va, iv (5 : Int32), rv da, iv (5 : Int32), iv (6 : Int32), iv (4 : Int32), iv c4] [])) (fun _ k_ => XS.iinc X19.here hx rfl (hb hby d11_35) rfl (l' := #[rv va, iv (5 : Int32), rv da, iv (5 : Int32), iv (6 : Int32), iv (4 : Int32), iv c4]) rfl k_) ?_
  refine own_st (T' := T19) (g' := (mkF m 41 #[rv va, iv (5 : Int32), rv da, iv (5 : Int32), iv (6 : Int32), iv (5 : Int32), iv c4] [])) (fun _ k_ => XS.iinc X19.here hx rfl (hb hby d11_38) rfl (l' := #[rv va, iv (5 : Int32), rv da, iv (5 : Int32), iv (6 : Int32), iv (5 : Int32), iv c4]) rfl k_) ?_
  refine own_st (T' := T19) (g' := (mkF m 3 #[rv va, iv (5 : Int32), rv da, iv (5 : Int32), iv (6 : Int32), iv (5 : Int32), iv c4] [])) (fun _ k_ => XS.goto X19.here hx rfl (pc0 := 41) (pc' := 3) rfl (hb hby d11_41) (by decide) (by decide) k_) ?_
  refine own_st (T' := T19) (g' := (mkF m 5 #[rv va, iv (5 : Int32), rv da, iv (5 : Int32), iv (6 : Int32), iv (5 : Int32), iv c4] [(.int (5 : Int32))])) (fun _ k_ => XS.iload X19.here hx rfl (hb hby d11_3) rfl  k_) ?_
  refine own_st (T' := T19) (g' := (mkF m 7 #[rv va, iv (5 : Int32), rv da, iv (5 : Int32), iv (6 : Int32), iv (5 : Int32), iv c4] [(.int (6 : Int32)), (.int (5 : Int32))])) (fun _ k_ => XS.iload X19.here hx rfl (hb hby d11_5) rfl  k_) ?_
  refine own_st (T' := T19) (g' := (mkF m 10 #[rv va, iv (5 : Int32), rv da, iv (5 : Int32), iv (6 : Int32), iv (5 : Int32), iv c4] [])) (fun _ k_ => XS.icmpNo X19.here hx rfl (hb hby d11_7) rfl (tlt (by decide : (5 : Int32) < (6 : Int32))).2.1 k_) ?_
  refine own_st (T' := T19) (g' := (mkF m 11 #[rv va, iv (5 : Int32), rv da, iv (5 : Int32), iv (6 : Int32), iv (5 : Int32), iv c4] [(.ref va)])) (fun _ k_ => XS.aloadN X19.here hx rfl (hb hby d11_10) rfl rfl  k_) ?_
  refine own_st (T' := T19) (g' := (mkF m 12 #[rv va, iv (5 : Int32), rv da, iv (5 : Int32), iv (6 : Int32), iv (5 : Int32), iv c4] [(.int (5 : Int32)), (.ref va)])) (fun _ k_ => XS.iloadN X19.here hx rfl (hb hby d11_11) rfl  k_) ?_
  have f20 : Arv Z h19 va kc .char (6 : Int32) [(.int c0), (.int c1), (.int c2), (.int c3), (.int c4), (.int c5)] (.int (0 : Int32)) := f16.other W19 nad
  obtain ⟨cl21, Ar21, q21, S21, N21, H21, G21⟩ := id f20
  have hin21 : ¬ ((5 : Int32) < 0 ∨ cl21.slots.size ≤ ((5 : Int32)).toNatClampNeg) := inb_of S21 ⟨by decide, by decide⟩
  refine own_st (T' := T19) (g' := (mkF m 13 #[rv va, iv (5 : Int32), rv da, iv (5 : Int32), iv (6 : Int32), iv (5 : Int32), iv c4] [(.int c5)])) (X19.caload hx (j := (5 : Int32)) (v := (.int c5)) (by rw [e19]; exact Ar21.1) (State.isArrayOf_alike hZ.alike Ar21.2.1) Ar21.2.2 hin21 (H21.at hin21 rfl) (g := (mkF m 12 #[rv va, iv (5 : Int32), rv da, iv (5 : Int32), iv (6 : Int32), iv (5 : Int32), iv c4] [(.int (5 : Int32)), (.ref va)])) rfl rfl (hb hby d11_12)) ?_
  clear hin21 G21 H21 N21 S21 q21 Ar21 cl21
  refine own_st (T' := T19) (g' := (mkF m 15 #[rv va, iv (5 : Int32), rv da, iv (5 : Int32), iv (6 : Int32), iv (5 : Int32), iv c5] [])) (fun _ k_ => XS.istore X19.here hx rfl (hb hby d11_13) rfl (l' := #[rv va, iv (5 : Int32), rv da, iv (5 : Int32), iv (6 : Int32), iv (5 : Int32), iv c5]) rfl k_) ?_
  refine own_st (T' := T19) (g' := (mkF m 17 #[rv va, iv (5 : Int32), rv da, iv (5 : Int32), iv (6 : Int32), iv (5 : Int32), iv c5] [(.int c5)])) (fun _ k_ => XS.iload X19.here hx rfl (hb hby d11_15) rfl  k_) ?_
  refine own_st (T' := T19) (g' := (mkF m 20 #[rv va, iv (5 : Int32), rv da, iv (5 : Int32), iv (6 : Int32), iv (5 : Int32), iv c5] [(.int (255 : Int32)), (.int c5)])) (fun _ k_ => XS.sipush X19.here hx rfl (hb hby d11_17) k_) ?_
  refine own_st (T' := T19) (g' := (mkF m 26 #[rv va, iv (5 : Int32), rv da, iv (5 : Int32), iv (6 : Int32), iv (5 : Int32), iv c5] [])) (fun _ k_ => XS.icmpYes X19.here hx rfl (pc0 := 20) (pc' := 26) rfl (hb hby d11_20) rfl (flt (hp5 : ¬ ((255 : Int32) < c5))).2.2.2 (by decide) (by decide) k_) ?_
  refine own_st (T' := T19) (g' := (mkF m 27 #[rv va, iv (5 : Int32), rv da, iv (5 : Int32), iv (6 : Int32), iv (5 : Int32), iv c5] [(.ref da)])) (fun _ k_ => XS.aloadN X19.here hx rfl (hb hby d11_26) rfl rfl  k_) ?_
  refine own_st (T' := T19) (g' := (mkF m 28 #[rv va, iv (5 : Int32), rv da, iv (5 : Int32), iv (6 : Int32), iv (5 : Int32), iv c5] [(.int (5 : Int32)), (.ref da)])) (fun _ k_ => XS.iloadN X19.here hx rfl (hb hby d11_27) rfl  k_) ?_
  refine own_st (T' := T19) (g' := (mkF m 30 #[rv va, iv (5 : Int32), rv da, iv (5 : Int32), iv (6 : Int32), iv (5 : Int32), iv c5] [(.int c5), (.int (5 : Int32)), (.ref da)])) (fun _ k_ => XS.iload X19.here hx rfl (hb hby d11_28) rfl  k_) ?_
  refine own_st (T' := T19) (g' := (mkF m 31 #[rv va, iv (5 : Int32), rv da, iv (5 : Int32), iv (6 : Int32), iv (5 : Int32), iv c5] [(.int (c5.toInt8.toInt32)), (.int (5 : Int32)), (.ref da)])) (fun _ k_ => XS.i2b X19.here hx rfl (hb hby d11_30) rfl k_) ?_
  obtain ⟨cl22, Ar22, q22, S22, N22, H22, G22⟩ := id Vn19
  have hin22 : ¬ ((5 : Int32) < 0 ∨ cl22.slots.size ≤ ((5 : Int32)).toNatClampNeg) := inb_of S22 ⟨by decide, by decide⟩
  obtain ⟨T23, h23, X23, e23, W23, st23⟩ := stB X19 hx hZ e19 Ar22 (j := (5 : Int32)) hin22 (g := (mkF m 31 #[rv va, iv (5 : Int32), rv da, iv (5 : Int32), iv (6 : Int32), iv (5 : Int32), iv c5] [(.int (c5.toInt8.toInt32)), (.int (5 : Int32)), (.ref da)])) rfl rfl (hb hby d11_31)
  have V23 : Arv Z h23 da kd .byte (6 : Int32) [(.int (c0.toInt8.toInt32)), (.int (c1.toInt8.toInt32)), (.int (c2.toInt8.toInt32)), (.int (c3.toInt8.toInt32)), (.int (c4.toInt8.toInt32)), (.int (nar .byte (c5.toInt8.toInt32)))] (.int (0 : Int32)) := Arv.set Ar22 q22 S22 N22 H22 G22 (fits_nar_byte _) W23 5 rfl (Nat.le_of_ble_eq_true rfl)
  have Vn23 : Arv Z h23 da kd .byte (6 : Int32) [(.int (c0.toInt8.toInt32)), (.int (c1.toInt8.toInt32)), (.int (c2.toInt8.toInt32)), (.int (c3.toInt8.toInt32)), (.int (c4.toInt8.toInt32)), (.int (c5.toInt8.toInt32))] (.int (0 : Int32)) := by simpa only [own_bb] using V23
  have Nx23 := Fr.snoc X23 Nx19 fda
  refine own_st (T' := T23) (g' := (mkF m 32 #[rv va, iv (5 : Int32), rv da, iv (5 : Int32), iv (6 : Int32), iv (5 : Int32), iv c5] [])) st23 ?_
  clear hin22 G22 H22 N22 S22 q22 Ar22 cl22 st23
  refine own_st (T' := T23) (g' := (mkF m 35 #[rv va, iv (6 : Int32), rv da, iv (5 : Int32), iv (6 : Int32), iv (5 : Int32), iv c5] [])) (fun _ k_ => XS.iinc X23.here hx rfl (hb hby d11_32) rfl (l' := #[rv va, iv (6 : Int32), rv da, iv (5 : Int32), iv (6 : Int32), iv (5 : Int32), iv c5]) rfl k_) ?_
  refine own_st (T' := T23) (g' := (mkF m 38 #[rv va, iv (6 : Int32), rv da, iv (6 : Int32), iv (6 : Int32), iv (5 : Int32), iv c5] [])) (fun _ k_ => XS.iinc X23.here hx rfl (hb hby d11_35) rfl (l' := #[rv va, iv (6 : Int32), rv da, iv (6 : Int32), iv (6 : Int32), iv (5 : Int32), iv c5]) rfl k_) ?_
  refine own_st (T' := T23) (g' := (mkF m 41 #[rv va, iv (6 : Int32), rv da, iv (6 : Int32), iv (6 : Int32), iv (6 : Int32), iv c5] [])) (fun _ k_ => XS.iinc X23.here hx rfl (hb hby d11_38) rfl (l' := #[rv va, iv (6 : Int32), rv da, iv (6 : Int32), iv (6 : Int32), iv (6 : Int32), iv c5]) rfl k_) ?_
  refine own_st (T' := T23) (g' := (mkF m 3 #[rv va, iv (6 : Int32), rv da, iv (6 : Int32), iv (6 : Int32), iv (6 : Int32), iv c5] [])) (fun _ k_ => XS.goto X23.here hx rfl (pc0 := 41) (pc' := 3) rfl (hb hby d11_41) (by decide) (by decide) k_) ?_
  refine own_st (T' := T23) (g' := (mkF m 5 #[rv va, iv (6 : Int32), rv da, iv (6 : Int32), iv (6 : Int32), iv (6 : Int32), iv c5] [(.int (6 : Int32))])) (fun _ k_ => XS.iload X23.here hx rfl (hb hby d11_3) rfl  k_) ?_
  refine own_st (T' := T23) (g' := (mkF m 7 #[rv va, iv (6 : Int32), rv da, iv (6 : Int32), iv (6 : Int32), iv (6 : Int32), iv c5] [(.int (6 : Int32)), (.int (6 : Int32))])) (fun _ k_ => XS.iload X23.here hx rfl (hb hby d11_5) rfl  k_) ?_
  refine own_st (T' := T23) (g' := (mkF m 44 #[rv va, iv (6 : Int32), rv da, iv (6 : Int32), iv (6 : Int32), iv (6 : Int32), iv c5] [])) (fun _ k_ => XS.icmpYes X23.here hx rfl (pc0 := 7) (pc' := 44) rfl (hb hby d11_7) rfl (flt (by decide : ¬ ((6 : Int32) < (6 : Int32)))).2.1 (by decide) (by decide) k_) ?_
  refine own_st (T' := T23) (g' := (mkF m 46 #[rv va, iv (6 : Int32), rv da, iv (6 : Int32), iv (6 : Int32), iv (6 : Int32), iv c5] [(.int (6 : Int32))])) (fun _ k_ => XS.iload X23.here hx rfl (hb hby d11_44) rfl  k_) ?_
  have f24 : Keep h0 h3 [da] := (Keep.refl h0 [da]).wr W3 (Or.inl (List.mem_of_getElem? (i := 0) rfl))
  have f25 : Keep h0 h7 [da] := f24.wr W7 (Or.inl (List.mem_of_getElem? (i := 0) rfl))
  have f26 : Keep h0 h11 [da] := f25.wr W11 (Or.inl (List.mem_of_getElem? (i := 0) rfl))
  have f27 : Keep h0 h15 [da] := f26.wr W15 (Or.inl (List.mem_of_getElem? (i := 0) rfl))
  have f28 : Keep h0 h19 [da] := f27.wr W19 (Or.inl (List.mem_of_getElem? (i := 0) rfl))
  have f29 : Keep h0 h23 [da] := f28.wr W23 (Or.inl (List.mem_of_getElem? (i := 0) rfl))
  exact own_retI X23 hx hret hlk (hb hby d11_46) (by decide) (by decide) (by rw [e23]; exact ⟨rfl, Nx23, f29, Vn23⟩)
theorem d10_0 : decode jdk_52_method_16_code 0 = .ok (.iload_n 2, 1) := by decide +kernel
theorem d10_1 : decode jdk_52_method_16_code 1 = .ok (.newarray .byte, 2) := by decide +kernel
theorem d10_3 : decode jdk_52_method_16_code 3 = .ok (.astore_n 3, 1) := by decide +kernel
theorem d10_4 : decode jdk_52_method_16_code 4 = .ok (.aload_n 0, 1) := by decide +kernel
theorem d10_5 : decode jdk_52_method_16_code 5 = .ok (.iload_n 1, 1) := by decide +kernel
theorem d10_6 : decode jdk_52_method_16_code 6 = .ok (.aload_n 3, 1) := by decide +kernel
theorem d10_7 : decode jdk_52_method_16_code 7 = .ok (.iconst 0, 1) := by decide +kernel
theorem d10_8 : decode jdk_52_method_16_code 8 = .ok (.iload_n 2, 1) := by decide +kernel
theorem d10_9 : decode jdk_52_method_16_code 9 = .ok (.invokestatic 115, 3) := by decide +kernel
theorem d10_12 : decode jdk_52_method_16_code 12 = .ok (.istore 4, 2) := by decide +kernel
theorem d10_14 : decode jdk_52_method_16_code 14 = .ok (.iload 4, 2) := by decide +kernel
theorem d10_16 : decode jdk_52_method_16_code 16 = .ok (.iload_n 2, 1) := by decide +kernel
theorem d10_17 : decode jdk_52_method_16_code 17 = .ok (.if_icmp .eq 40, 3) := by decide +kernel
theorem d10_57 : decode jdk_52_method_16_code 57 = .ok (.aload_n 3, 1) := by decide +kernel
theorem d10_58 : decode jdk_52_method_16_code 58 = .ok (.areturn, 1) := by decide +kernel
theorem pd___CI_BII_I : parseMethodDescriptor "([CI[BII)I" = some ⟨[(.array .char), .int, (.array .byte), .int, .int], some .int⟩ := by decide +kernel
theorem ef_cmp3_6 (m : MethodId) (x0 : Addr) (x1 : Int32) (x2 : Int32) : entryFrame m #[(.ref x0), (.int x1), (.int x2)] 6 = mkF m 0 #[rv x0, iv x1, iv x2, .unset, .unset, .unset] [] := by first | (simp [entryFrame, mkF, argsToLocals, Value.category]; done) | rfl
def Q_cmp3_6 (Z : State) (va : Addr) (kc : ClassId) (c0 : Int32) (c1 : Int32) (c2 : Int32) (c3 : Int32) (c4 : Int32) (c5 : Int32) (h0 : Heap) (n0 : Nat) (v : Option Value) (h : Heap) (L : List Loc) : Prop := ∃ (t : Addr) (kb : ClassId), (v = some (.ref t)) ∧ (Fr n0 L) ∧ (Keep h0 h []) ∧ (Arv Z h t kb .byte (6 : Int32) [(.int (c0.toInt8.toInt32)), (.int (c1.toInt8.toInt32)), (.int (c2.toInt8.toInt32)), (.int (c3.toInt8.toInt32)), (.int (c4.toInt8.toInt32)), (.int (c5.toInt8.toInt32))] (.int (0 : Int32))) ∧ (h0.size ≤ t)
set_option maxRecDepth 65536 in
set_option maxHeartbeats 40000000 in
theorem rm_cmp3_6 (l : Launch) (Z : State) (a0 : Array Value) (hw : ∀ d ∈ tables_1, d.before a0 Z = true) (ws : List Jvm.Cond) (va : Addr) (kc : ClassId) (c0 : Int32) (c1 : Int32) (c2 : Int32) (c3 : Int32) (c4 : Int32) (c5 : Int32) (h0 : Heap) (n0 : Nat) (O0 : Old Z n0 h0) (VA : Arv Z h0 va kc .char (6 : Int32) [(.int c0), (.int c1), (.int c2), (.int c3), (.int c4), (.int c5)] (.int (0 : Int32))) (hp0 : ¬ (255 : Int32) < c0) (hp1 : ¬ (255 : Int32) < c1) (hp2 : ¬ (255 : Int32) < c2) (hp3 : ¬ (255 : Int32) < c3) (hp4 : ¬ (255 : Int32) < c4) (hp5 : ¬ (255 : Int32) < c5) :
    MetFree l own_m1 (head1 (Jvm.Cond.code own_m1 jdk_52_method_16_code 6 (some (.array .byte)) :: ws) ({ frames := 1, cells := 1, slots := 6, locals := 18 } : Room)) (fun ar_ U => ar_ = #[(.ref va), (.int (0 : Int32)), (.int (6 : Int32))] ∧ Z.Warmed39 U.vm ∧ U.heap = h0) (fun _ _ _ _ _ => True) (fun _ U o U' => ∃ v L, o = .returned v ∧ Q_cmp3_6 Z va kc c0 c1 c2 c3 c4 c5 h0 n0 v U'.heap L ∧ FrameEnd U o U' L ({ frames := 1, cells := 1, slots := 6, locals := 18 } : Room).cells ({ frames := 1, cells := 1, slots := 6, locals := 18 } : Room).slots) := by
  refine MetFree.of_bodySF (plainFor_of_name pn_0) hisR ?_
  intro p e s m args below meth c s₁ Bd hml0 hP hK
  obtain ⟨rfl, hZ, hh⟩ := hP
  have hx := Bd.exec
  have hby := Bd.bytes
  have hml : c.maxLocals = 6 := hml0
  have hown : s.vm.findClass "java/lang/StringUTF16" = some m.cls := findClass_of_methodNamed Bd.named
  have hnm := (name_of_methodNamed Bd.named Bd.method).1
  have X0 : Stand p l e ({ frames := 1, cells := 1, slots := 6, locals := 18 } : Room) s m #[(.ref va), (.int (0 : Int32)), (.int (6 : Int32))] below meth c s₁ [] 0 0 := Stand.of_body Bd
  have e0 : s₁.heap = h0 := by rw [← hh, Bd.state]; rfl
  have N0 := Fr.nil n0
  have hret := Bd.returns
  have hlk : meth.locks = false := Bd.notSynchronized
  show own_E p e below s ({ frames := 1, cells := 1, slots := 6, locals := 18 } : Room).cells ({ frames := 1, cells := 1, slots := 6, locals := 18 } : Room).slots (Q_cmp3_6 Z va kc c0 c1 c2 c3 c4 c5 h0 n0) s₁ (entryFrame m #[(.ref va), (.int (0 : Int32)), (.int (6 : Int32))] 6)
  rw [ef_cmp3_6 m va (0 : Int32) (6 : Int32)]
  refine own_st (T' := s₁) (g' := (mkF m 1 #[rv va, iv (0 : Int32), iv (6 : Int32), .unset, .unset, .unset] [(.int (6 : Int32))])) (fun _ k_ => XS.iloadN X0.here hx rfl (hb hby d10_0) rfl  k_) ?_
  obtain ⟨T1, h1, k1, X1, e1, E1, A1, st1⟩ := newP X0 hx hZ (hw _ (List.mem_of_getElem? (i := 8) rfl)) e0 (g := (mkF m 1 #[rv va, iv (0 : Int32), iv (6 : Int32), .unset, .unset, .unset] [(.int (6 : Int32))])) rfl (hb hby d10_1) rfl (by decide) (cap := 6) (by decide) (by decide) (by decide) (by decide)
  obtain ⟨b1, g1⟩ : ∃ z, z = h0.size := ⟨_, rfl⟩
  rw [← g1] at A1 st1
  have fr1 : n0 ≤ b1 := Nat.le_trans (own_z O0) (Nat.le_of_eq g1.symm)
  have sz1 : h0.size ≤ b1 := Nat.le_trans (Keep.refl h0 []).1 (Nat.le_of_eq g1.symm)
  have V1 : Arv Z h1 b1 k1 .byte (6 : Int32) [(.int (0 : Int32)), (.int (0 : Int32)), (.int (0 : Int32)), (.int (0 : Int32)), (.int (0 : Int32)), (.int (0 : Int32))] (.int (0 : Int32)) := (Arv.new A1 (by decide)).pad (pad_rep [] (.int (0 : Int32)) 6)
  refine own_st (T' := T1) (g' := (mkF m 3 #[rv va, iv (0 : Int32), iv (6 : Int32), .unset, .unset, .unset] [(.ref b1)])) st1 ?_
  clear st1
  refine own_st (T' := T1) (g' := (mkF m 4 #[rv va, iv (0 : Int32), iv (6 : Int32), rv b1, .unset, .unset] [])) (fun _ k_ => XS.astoreN X1.here hx rfl (hb hby d10_3) rfl rfl (l' := #[rv va, iv (0 : Int32), iv (6 : Int32), rv b1, .unset, .unset]) rfl k_) ?_
  refine own_st (T' := T1) (g' := (mkF m 5 #[rv va, iv (0 : Int32), iv (6 : Int32), rv b1, .unset, .unset] [(.ref va)])) (fun _ k_ => XS.aloadN X1.here hx rfl (hb hby d10_4) rfl rfl  k_) ?_
  refine own_st (T' := T1) (g' := (mkF m 6 #[rv va, iv (0 : Int32), iv (6 : Int32), rv b1, .unset, .unset] [(.int (0 : Int32)), (.ref va)])) (fun _ k_ => XS.iloadN X1.here hx rfl (hb hby d10_5) rfl  k_) ?_
  refine own_st (T' := T1) (g' := (mkF m 7 #[rv va, iv (0 : Int32), iv (6 : Int32), rv b1, .unset, .unset] [(.ref b1), (.int (0 : Int32)), (.ref va)])) (fun _ k_ => XS.aloadN X1.here hx rfl (hb hby d10_6) rfl rfl  k_) ?_
  refine own_st (T' := T1) (g' := (mkF m 8 #[rv va, iv (0 : Int32), iv (6 : Int32), rv b1, .unset, .unset] [(.int (0 : Int32)), (.ref b1), (.int (0 : Int32)), (.ref va)])) (fun _ k_ => XS.iconst X1.here hx rfl (hb hby d10_7) k_) ?_
  refine own_st (T' := T1) (g' := (mkF m 9 #[rv va, iv (0 : Int32), iv (6 : Int32), rv b1, .unset, .unset] [(.int (6 : Int32)), (.int (0 : Int32)), (.ref b1), (.int (0 : Int32)), (.ref va)])) (fun _ k_ => XS.iloadN X1.here hx rfl (hb hby d10_8) rfl  k_) ?_
  have f2 : Arv Z h1 va kc .char (6 : Int32) [(.int c0), (.int c1), (.int c2), (.int c3), (.int c4), (.int c5)] (.int (0 : Int32)) := VA.ext E1
  have ne3 : va ≠ b1 := Nat.ne_of_lt (Nat.lt_of_lt_of_le VA.lt (Nat.le_of_eq g1.symm))
  have f4 : Old Z n0 h1 := O0.ext E1
  obtain ⟨_, T5, L5, X5, hQ5, st5⟩ := own_callS X1 hx (y := own_m0) hown (mvT hZ (hw _ (List.mem_of_getElem? (i := 55) rfl))) (mvT hZ (hw _ (List.mem_of_getElem? (i := 56) rfl))) (mvT hZ (hw _ (List.mem_of_getElem? (i := 53) rfl))) (mvT hZ (hw _ (List.mem_of_getElem? (i := 57) rfl))) (by decide) (backOf (W := 0) (rm_cmp5_6 l Z a0 hw [] va b1 kc k1 c0 c1 c2 c3 c4 c5 h1 n0 f4 f2 V1 ne3 fr1 hp0 hp1 hp2 hp3 hp4 hp5) hZ (hw _ (List.mem_of_getElem? (i := 57) rfl)) (hw _ (List.mem_of_getElem? (i := 53) rfl)) (by decide) (by decide)) (g := (mkF m 9 #[rv va, iv (0 : Int32), iv (6 : Int32), rv b1, .unset, .unset] [(.int (6 : Int32)), (.int (0 : Int32)), (.ref b1), (.int (0 : Int32)), (.ref va)])) rfl (by rw [hml]; rfl) (argsL := [(.ref va), (.int (0 : Int32)), (.ref b1), (.int (0 : Int32)), (.int (6 : Int32))]) (rest := []) (lenOf pd___CI_BII_I rfl) rfl (by show 2 * 0 + _ ≤ _; exact Nat.le_of_eq rfl) (hb hby d10_9) rfl e1 (by decide) (by decide) (c' := 1) (s' := 6) rfl rfl
  obtain ⟨rfl, Nq5, K5, fq5_0⟩ := hQ5
  have N5 := Fr.app N0 Nq5
  refine own_st (T' := T5) (g' := (mkF m 12 #[rv va, iv (0 : Int32), iv (6 : Int32), rv b1, .unset, .unset] [(.int (6 : Int32))])) st5 ?_
  clear st5
  refine own_st (T' := T5) (g' := (mkF m 14 #[rv va, iv (0 : Int32), iv (6 : Int32), rv b1, iv (6 : Int32), .unset] [])) (fun _ k_ => XS.istore X5.here hx rfl (hb hby d10_12) rfl (l' := #[rv va, iv (0 : Int32), iv (6 : Int32), rv b1, iv (6 : Int32), .unset]) rfl k_) ?_
  refine own_st (T' := T5) (g' := (mkF m 16 #[rv va, iv (0 : Int32), iv (6 : Int32), rv b1, iv (6 : Int32), .unset] [(.int (6 : Int32))])) (fun _ k_ => XS.iload X5.here hx rfl (hb hby d10_14) rfl  k_) ?_
  refine own_st (T' := T5) (g' := (mkF m 17 #[rv va, iv (0 : Int32), iv (6 : Int32), rv b1, iv (6 : Int32), .unset] [(.int (6 : Int32)), (.int (6 : Int32))])) (fun _ k_ => XS.iloadN X5.here hx rfl (hb hby d10_16) rfl  k_) ?_
  refine own_st (T' := T5) (g' := (mkF m 57 #[rv va, iv (0 : Int32), iv (6 : Int32), rv b1, iv (6 : Int32), .unset] [])) (fun _ k_ => XS.icmpYes X5.here hx rfl (pc0 := 17) (pc' := 57) rfl (hb hby d10_17) rfl (teq (rfl : (6 : Int32) = (6 : Int32))).1 (by decide) (by decide) k_) ?_
  refine own_st (T' := T5) (g' := (mkF m 58 #[rv va, iv (0 : Int32), iv (6 : Int32), rv b1, iv (6 : Int32), .unset] [(.ref b1)])) (fun _ k_ => XS.aloadN X5.here hx rfl (hb hby d10_57) rfl rfl  k_) ?_
  have f6 : Keep h0 h1 [] := (Keep.refl h0 []).ext E1
  have f7 : Keep h0 T5.heap [] := f6.trans K5 (allS (Or.inr sz1) all0)
  exact own_retA X5 hx hret rfl rfl hlk (hb hby d10_58) (by decide) (by decide) ⟨b1, k1, rfl, N5, f7, fq5_0, sz1⟩
theorem d12_0 : decode jdk_52_method_15_code 0 = .ok (.iload_n 1, 1) := by decide +kernel
theorem d12_1 : decode jdk_52_method_15_code 1 = .ok (.aload_n 0, 1) := by decide +kernel
theorem d12_2 : decode jdk_52_method_15_code 2 = .ok (.arraylength, 1) := by decide +kernel
theorem d12_3 : decode jdk_52_method_15_code 3 = .ok (.isub, 1) := by decide +kernel
theorem d12_4 : decode jdk_52_method_15_code 4 = .ok (.bipush 31, 2) := by decide +kernel
theorem d12_6 : decode jdk_52_method_15_code 6 = .ok (.iushr, 1) := by decide +kernel
theorem d12_7 : decode jdk_52_method_15_code 7 = .ok (.i2b, 1) := by decide +kernel
theorem d12_8 : decode jdk_52_method_15_code 8 = .ok (.ireturn, 1) := by decide +kernel
theorem ef_cdr_6 (m : MethodId) (x0 : Addr) (x1 : Int32) : entryFrame m #[(.ref x0), (.int x1)] 2 = mkF m 0 #[rv x0, iv x1] [] := by first | (simp [entryFrame, mkF, argsToLocals, Value.category]; done) | rfl
def Q_cdr_6 (Z : State) (t : Addr) (kb : ClassId) (vs : List Value) (h0 : Heap) (n0 : Nat) (v : Option Value) (h : Heap) (L : List Loc) : Prop := (v = some (.int (0 : Int32))) ∧ (Fr n0 L) ∧ (h = h0)
set_option maxRecDepth 65536 in
set_option maxHeartbeats 40000000 in
theorem rm_cdr_6 (l : Launch) (Z : State) (a0 : Array Value) (hw : ∀ d ∈ tables_1, d.before a0 Z = true) (ws : List Jvm.Cond) (t : Addr) (kb : ClassId) (vs : List Value) (h0 : Heap) (n0 : Nat) (O0 : Old Z n0 h0) (VT : Arv Z h0 t kb .byte (6 : Int32) vs (.int (0 : Int32))) :
    MetFree l own_m2 (head1 (Jvm.Cond.code own_m2 jdk_52_method_15_code 2 (some .byte) :: ws) ({ frames := 0, cells := 0, slots := 0, locals := 0 } : Room)) (fun ar_ U => ar_ = #[(.ref t), (.int (6 : Int32))] ∧ Z.Warmed39 U.vm ∧ U.heap = h0) (fun _ _ _ _ _ => True) (fun _ U o U' => ∃ v L, o = .returned v ∧ Q_cdr_6 Z t kb vs h0 n0 v U'.heap L ∧ FrameEnd U o U' L ({ frames := 0, cells := 0, slots := 0, locals := 0 } : Room).cells ({ frames := 0, cells := 0, slots := 0, locals := 0 } : Room).slots) := by
  refine MetFree.of_bodySF (plainFor_of_name pn_0) hisR ?_
  intro p e s m args below meth c s₁ Bd hml0 hP hK
  obtain ⟨rfl, hZ, hh⟩ := hP
  have hx := Bd.exec
  have hby := Bd.bytes
  have hml : c.maxLocals = 2 := hml0
  have hown : s.vm.findClass "java/lang/StringUTF16" = some m.cls := findClass_of_methodNamed Bd.named
  have hnm := (name_of_methodNamed Bd.named Bd.method).1
  have X0 : Stand p l e ({ frames := 0, cells := 0, slots := 0, locals := 0 } : Room) s m #[(.ref t), (.int (6 : Int32))] below meth c s₁ [] 0 0 := Stand.of_body Bd
  have e0 : s₁.heap = h0 := by rw [← hh, Bd.state]; rfl
  have N0 := Fr.nil n0
  have hret := Bd.returns
  have hlk : meth.locks = false := Bd.notSynchronized
  show own_E p e below s ({ frames := 0, cells := 0, slots := 0, locals := 0 } : Room).cells ({ frames := 0, cells := 0, slots := 0, locals := 0 } : Room).slots (Q_cdr_6 Z t kb vs h0 n0) s₁ (entryFrame m #[(.ref t), (.int (6 : Int32))] 2)
  rw [ef_cdr_6 m t (6 : Int32)]
  refine own_st (T' := s₁) (g' := (mkF m 1 #[rv t, iv (6 : Int32)] [(.int (6 : Int32))])) (fun _ k_ => XS.iloadN X0.here hx rfl (hb hby d12_0) rfl  k_) ?_
  refine own_st (T' := s₁) (g' := (mkF m 2 #[rv t, iv (6 : Int32)] [(.ref t), (.int (6 : Int32))])) (fun _ k_ => XS.aloadN X0.here hx rfl (hb hby d12_1) rfl rfl  k_) ?_
  obtain ⟨cl1, Ar1, -, S1, N1, -, -⟩ := id VT
  refine own_st (T' := s₁) (g' := (mkF m 3 #[rv t, iv (6 : Int32)] [(.int (6 : Int32)), (.int (6 : Int32))])) (fun t_ k_ => X0.arraylength hx (by rw [e0]; exact Ar1.1) (State.isArrayOf_alike hZ.alike Ar1.2.1) (g := (mkF m 2 #[rv t, iv (6 : Int32)] [(.ref t), (.int (6 : Int32))])) rfl rfl (hb hby d12_2) _ (by rw [len_of S1 N1]; exact k_)) ?_
  refine own_st (T' := s₁) (g' := (mkF m 4 #[rv t, iv (6 : Int32)] [(.int (0 : Int32))])) (fun _ k_ => XS.isub X0.here hx rfl (hb hby d12_3) rfl k_) ?_
  refine own_st (T' := s₁) (g' := (mkF m 6 #[rv t, iv (6 : Int32)] [(.int (31 : Int32)), (.int (0 : Int32))])) (fun _ k_ => XS.bipush X0.here hx rfl (hb hby d12_4) k_) ?_
  refine own_st (T' := s₁) (g' := (mkF m 7 #[rv t, iv (6 : Int32)] [(.int (((0 : Int32).toUInt32 >>> ((31 : Int32) &&& 31).toUInt32).toInt32))])) (fun _ k_ => XS.iushr X0.here hx rfl (hb hby d12_6) rfl k_) ?_
  refine own_st (T' := s₁) (g' := (mkF m 8 #[rv t, iv (6 : Int32)] [(.int ((((0 : Int32).toUInt32 >>> ((31 : Int32) &&& 31).toUInt32).toInt32).toInt8.toInt32))])) (fun _ k_ => XS.i2b X0.here hx rfl (hb hby d12_7) rfl k_) ?_
  exact own_retN X0 hx (t := .byte) hret (by simp) hlk (hb hby d12_8) (by decide) (by decide) ⟨(by decide), N0, e0⟩
theorem d8_0 : decode jdk_42_method_149_code 0 = .ok (.aload_n 0, 1) := by decide +kernel
theorem d8_1 : decode jdk_42_method_149_code 1 = .ok (.invokespecial 1, 3) := by decide +kernel
theorem d8_4 : decode jdk_42_method_149_code 4 = .ok (.iload_n 3, 1) := by decide +kernel
theorem d8_5 : decode jdk_42_method_149_code 5 = .ok (.ifCond .ne 22, 3) := by decide +kernel
theorem d8_27 : decode jdk_42_method_149_code 27 = .ok (.getstatic 38, 3) := by decide +kernel
theorem d8_30 : decode jdk_42_method_149_code 30 = .ok (.ifCond .eq 28, 3) := by decide +kernel
theorem d8_33 : decode jdk_42_method_149_code 33 = .ok (.aload_n 1, 1) := by decide +kernel
theorem d8_34 : decode jdk_42_method_149_code 34 = .ok (.iload_n 2, 1) := by decide +kernel
theorem d8_35 : decode jdk_42_method_149_code 35 = .ok (.iload_n 3, 1) := by decide +kernel
theorem d8_36 : decode jdk_42_method_149_code 36 = .ok (.invokestatic 177, 3) := by decide +kernel
theorem d8_39 : decode jdk_42_method_149_code 39 = .ok (.astore 5, 2) := by decide +kernel
theorem d8_41 : decode jdk_42_method_149_code 41 = .ok (.aload_n 0, 1) := by decide +kernel
theorem d8_42 : decode jdk_42_method_149_code 42 = .ok (.aload 5, 2) := by decide +kernel
theorem d8_44 : decode jdk_42_method_149_code 44 = .ok (.iload_n 3, 1) := by decide +kernel
theorem d8_45 : decode jdk_42_method_149_code 45 = .ok (.invokestatic 47, 3) := by decide +kernel
theorem d8_48 : decode jdk_42_method_149_code 48 = .ok (.putfield 15, 3) := by decide +kernel
theorem d8_51 : decode jdk_42_method_149_code 51 = .ok (.aload_n 0, 1) := by decide +kernel
theorem d8_52 : decode jdk_42_method_149_code 52 = .ok (.aload 5, 2) := by decide +kernel
theorem d8_54 : decode jdk_42_method_149_code 54 = .ok (.putfield 9, 3) := by decide +kernel
theorem d8_57 : decode jdk_42_method_149_code 57 = .ok (.return_, 1) := by decide +kernel
theorem pd___CII__B : parseMethodDescriptor "([CII)[B" = some ⟨[(.array .char), .int, .int], some (.array .byte)⟩ := by decide +kernel
theorem pd___BI_B : parseMethodDescriptor "([BI)B" = some ⟨[(.array .byte), .int], some .byte⟩ := by decide +kernel
theorem pn_1 : plainName "java/lang/String" = true := by first | (simp [plainName, overriddenIn]; done) | decide +kernel
theorem ef_ini4_6 (m : MethodId) (x0 : Addr) (x1 : Addr) (x2 : Int32) (x3 : Int32) : entryFrame m #[(.ref x0), (.ref x1), (.int x2), (.int x3), .null] 6 = mkF m 0 #[rv x0, rv x1, iv x2, iv x3, .val .null, .unset] [] := by first | (simp [entryFrame, mkF, argsToLocals, Value.category]; done) | rfl
def Q_ini4_6 (Z : State) (a : Addr) (va : Addr) (kc : ClassId) (cz : Int32) (c0 : Int32) (c1 : Int32) (c2 : Int32) (c3 : Int32) (c4 : Int32) (c5 : Int32) (h0 : Heap) (n0 : Nat) (v : Option Value) (h : Heap) (L : List Loc) : Prop := ∃ (t : Addr) (kb : ClassId), (v = none) ∧ (Fr n0 L) ∧ (Keep h0 h [a]) ∧ (Exa Z h a "java/lang/String") ∧ (Fld Z h a "java/lang/String" "coder" "B" (.int (0 : Int32))) ∧ (Fld Z h a "java/lang/String" "value" "[B" (.ref t)) ∧ (Arv Z h t kb .byte (6 : Int32) [(.int (c0.toInt8.toInt32)), (.int (c1.toInt8.toInt32)), (.int (c2.toInt8.toInt32)), (.int (c3.toInt8.toInt32)), (.int (c4.toInt8.toInt32)), (.int (c5.toInt8.toInt32))] (.int (0 : Int32))) ∧ (h0.size ≤ t)
set_option maxRecDepth 65536 in
set_option maxHeartbeats 40000000 in
theorem rm_ini4_6 (l : Launch) (Z : State) (a0 : Array Value) (hw : ∀ d ∈ tables_1, d.before a0 Z = true) (ws : List Jvm.Cond) (a : Addr) (va : Addr) (kc : ClassId) (cz : Int32) (c0 : Int32) (c1 : Int32) (c2 : Int32) (c3 : Int32) (c4 : Int32) (c5 : Int32) (h0 : Heap) (n0 : Nat) (O0 : Old Z n0 h0) (EA : Exa Z h0 a "java/lang/String") (FV : Fld Z h0 a "java/lang/String" "value" "[B" .null) (FC : Fld Z h0 a "java/lang/String" "coder" "B" (.int (0 : Int32))) (fa : n0 ≤ a) (VA : Arv Z h0 va kc .char (6 : Int32) [(.int c0), (.int c1), (.int c2), (.int c3), (.int c4), (.int c5)] (.int (0 : Int32))) (SC : Sta Z Z.heap "java/lang/String" "COMPACT_STRINGS" "Z" (.int cz)) (hcz : ¬ cz = (0 : Int32)) (hp0 : ¬ (255 : Int32) < c0) (hp1 : ¬ (255 : Int32) < c1) (hp2 : ¬ (255 : Int32) < c2) (hp3 : ¬ (255 : Int32) < c3) (hp4 : ¬ (255 : Int32) < c4) (hp5 : ¬ (255 : Int32) < c5) :
    MetFree l own_m3 (head1 (Jvm.Cond.code own_m3 jdk_42_method_149_code 6 none :: ws) ({ frames := 2, cells := 1, slots := 6, locals := 35 } : Room)) (fun ar_ U => ar_ = #[(.ref a), (.ref va), (.int (0 : Int32)), (.int (6 : Int32)), .null] ∧ Z.Warmed39 U.vm ∧ U.heap = h0) (fun _ _ _ _ _ => True) (fun _ U o U' => ∃ v L, o = .returned v ∧ Q_ini4_6 Z a va kc cz c0 c1 c2 c3 c4 c5 h0 n0 v U'.heap L ∧ FrameEnd U o U' L ({ frames := 2, cells := 1, slots := 6, locals := 35 } : Room).cells ({ frames := 2, cells := 1, slots := 6, locals := 35 } : Room).slots) := by
  refine MetFree.of_bodySF (plainFor_of_name pn_1) hisR ?_
  intro p e s m args below meth c s₁ Bd hml0 hP hK
  obtain ⟨rfl, hZ, hh⟩ := hP
  have hx := Bd.exec
  have hby := Bd.bytes
  have hml : c.maxLocals = 6 := hml0
  have hown : s.vm.findClass "java/lang/String" = some m.cls := findClass_of_methodNamed Bd.named
  have hnm := (name_of_methodNamed Bd.named Bd.method).1
  have X0 : Stand p l e ({ frames := 2, cells := 1, slots := 6, locals := 35 } : Room) s m #[(.ref a), (.ref va), (.int (0 : Int32)), (.int (6 : Int32)), .null] below meth c s₁ [] 0 0 := Stand.of_body Bd
  have e0 : s₁.heap = h0 := by rw [← hh, Bd.state]; rfl
  have N0 := Fr.nil n0
  have hret := Bd.returns
  have hlk : meth.locks = false := Bd.notSynchronized
  show own_E p e below s ({ frames := 2, cells := 1, slots := 6, locals := 35 } : Room).cells ({ frames := 2, cells := 1, slots := 6, locals := 35 } : Room).slots (Q_ini4_6 Z a va kc cz c0 c1 c2 c3 c4 c5 h0 n0) s₁ (entryFrame m #[(.ref a), (.ref va), (.int (0 : Int32)), (.int (6 : Int32)), .null] 6)
  rw [ef_ini4_6 m a va (0 : Int32) (6 : Int32)]
  refine own_st (T' := s₁) (g' := (mkF m 1 #[rv a, rv va, iv (0 : Int32), iv (6 : Int32), .val .null, .unset] [(.ref a)])) (fun _ k_ => XS.aloadN X0.here hx rfl (hb hby d8_0) rfl rfl  k_) ?_
  obtain ⟨T1, X1, e1, st1⟩ := initO X0 hx hZ hown (hw _ (List.mem_of_getElem? (i := 48) rfl)) (hw _ (List.mem_of_getElem? (i := 49) rfl)) (hw _ (List.mem_of_getElem? (i := 50) rfl)) e0 (g := (mkF m 1 #[rv a, rv va, iv (0 : Int32), iv (6 : Int32), .val .null, .unset] [(.ref a)])) rfl (by rw [hml]; rfl) rfl (hb hby d8_1) (by decide) (W := 0) (by show 2 * 0 + _ ≤ _; exact Nat.le_of_eq rfl) (by decide)
  refine own_st (T' := T1) (g' := (mkF m 4 #[rv a, rv va, iv (0 : Int32), iv (6 : Int32), .val .null, .unset] [])) st1 ?_
  clear st1
  refine own_st (T' := T1) (g' := (mkF m 5 #[rv a, rv va, iv (0 : Int32), iv (6 : Int32), .val .null, .unset] [(.int (6 : Int32))])) (fun _ k_ => XS.iloadN X1.here hx rfl (hb hby d8_4) rfl  k_) ?_
  refine own_st (T' := T1) (g' := (mkF m 27 #[rv a, rv va, iv (0 : Int32), iv (6 : Int32), .val .null, .unset] [])) (fun _ k_ => XS.ifYes X1.here hx rfl (pc0 := 5) (pc' := 27) rfl (hb hby d8_5) rfl ((if0 _ _).trans (feq (by decide : ¬ ((6 : Int32) = (0 : Int32)))).2) (by decide) (by decide) k_) ?_
  obtain ⟨T2, X2, e2, st2⟩ := getS2 X1 hx hZ hown (host := "") (Or.inl (hw _ (List.mem_of_getElem? (i := 25) rfl))) Via.refl e1 (SC.ext O0.2) (g := (mkF m 27 #[rv a, rv va, iv (0 : Int32), iv (6 : Int32), .val .null, .unset] [])) rfl (hb hby d8_27)
  refine own_st (T' := T2) (g' := (mkF m 30 #[rv a, rv va, iv (0 : Int32), iv (6 : Int32), .val .null, .unset] [(.int cz)])) st2 ?_
  clear st2
  refine own_st (T' := T2) (g' := (mkF m 33 #[rv a, rv va, iv (0 : Int32), iv (6 : Int32), .val .null, .unset] [])) (fun _ k_ => XS.ifNo X2.here hx rfl (hb hby d8_30) rfl ((if0 _ _).trans (feq (hcz : ¬ (cz = (0 : Int32)))).1) k_) ?_
  refine own_st (T' := T2) (g' := (mkF m 34 #[rv a, rv va, iv (0 : Int32), iv (6 : Int32), .val .null, .unset] [(.ref va)])) (fun _ k_ => XS.aloadN X2.here hx rfl (hb hby d8_33) rfl rfl  k_) ?_
  refine own_st (T' := T2) (g' := (mkF m 35 #[rv a, rv va, iv (0 : Int32), iv (6 : Int32), .val .null, .unset] [(.int (0 : Int32)), (.ref va)])) (fun _ k_ => XS.iloadN X2.here hx rfl (hb hby d8_34) rfl  k_) ?_
  refine own_st (T' := T2) (g' := (mkF m 36 #[rv a, rv va, iv (0 : Int32), iv (6 : Int32), .val .null, .unset] [(.int (6 : Int32)), (.int (0 : Int32)), (.ref va)])) (fun _ k_ => XS.iloadN X2.here hx rfl (hb hby d8_35) rfl  k_) ?_
  obtain ⟨_, T3, L3, X3, hQ3, st3⟩ := own_callS X2 hx (y := own_m1) hown (mvT hZ (hw _ (List.mem_of_getElem? (i := 51) rfl))) (mvT hZ (hw _ (List.mem_of_getElem? (i := 52) rfl))) (mvT hZ (hw _ (List.mem_of_getElem? (i := 53) rfl))) (mvT hZ (hw _ (List.mem_of_getElem? (i := 54) rfl))) (by decide) (backOf (W := 0) (rm_cmp3_6 l Z a0 hw [] va kc c0 c1 c2 c3 c4 c5 h0 n0 O0 VA hp0 hp1 hp2 hp3 hp4 hp5) hZ (hw _ (List.mem_of_getElem? (i := 54) rfl)) (hw _ (List.mem_of_getElem? (i := 53) rfl)) (by decide) (by decide)) (g := (mkF m 36 #[rv a, rv va, iv (0 : Int32), iv (6 : Int32), .val .null, .unset] [(.int (6 : Int32)), (.int (0 : Int32)), (.ref va)])) rfl (by rw [hml]; rfl) (argsL := [(.ref va), (.int (0 : Int32)), (.int (6 : Int32))]) (rest := []) (lenOf pd___CII__B rfl) rfl (by show 2 * 0 + _ ≤ _; exact Nat.le_of_eq rfl) (hb hby d8_36) rfl e2 (by decide) (by decide) (c' := 1) (s' := 6) rfl rfl
  obtain ⟨t3, kb3, rfl, Nq3, K3, fq3_0, xq3_fresh_t⟩ := hQ3
  have N3 := Fr.app N0 Nq3
  refine own_st (T' := T3) (g' := (mkF m 39 #[rv a, rv va, iv (0 : Int32), iv (6 : Int32), .val .null, .unset] [(.ref t3)])) st3 ?_
  clear st3
  refine own_st (T' := T3) (g' := (mkF m 41 #[rv a, rv va, iv (0 : Int32), iv (6 : Int32), .val .null, rv t3] [])) (fun _ k_ => XS.astore X3.here hx rfl (hb hby d8_39) rfl rfl (l' := #[rv a, rv va, iv (0 : Int32), iv (6 : Int32), .val .null, rv t3]) rfl k_) ?_
  refine own_st (T' := T3) (g' := (mkF m 42 #[rv a, rv va, iv (0 : Int32), iv (6 : Int32), .val .null, rv t3] [(.ref a)])) (fun _ k_ => XS.aloadN X3.here hx rfl (hb hby d8_41) rfl rfl  k_) ?_
  refine own_st (T' := T3) (g' := (mkF m 44 #[rv a, rv va, iv (0 : Int32), iv (6 : Int32), .val .null, rv t3] [(.ref t3), (.ref a)])) (fun _ k_ => XS.aload X3.here hx rfl (hb hby d8_42) rfl rfl  k_) ?_
  refine own_st (T' := T3) (g' := (mkF m 45 #[rv a, rv va, iv (0 : Int32), iv (6 : Int32), .val .null, rv t3] [(.int (6 : Int32)), (.ref t3), (.ref a)])) (fun _ k_ => XS.iloadN X3.here hx rfl (hb hby d8_44) rfl  k_) ?_
  have f4 : Old Z n0 T3.heap := O0.keep K3 all0
  obtain ⟨_, T5, L5, X5, hQ5, st5⟩ := own_callS X3 hx (y := own_m2) hown (mvT hZ (hw _ (List.mem_of_getElem? (i := 58) rfl))) (mvT hZ (hw _ (List.mem_of_getElem? (i := 59) rfl))) (mvT hZ (hw _ (List.mem_of_getElem? (i := 53) rfl))) (mvT hZ (hw _ (List.mem_of_getElem? (i := 60) rfl))) (by decide) (backOf (W := 1) (rm_cdr_6 l Z a0 hw [] t3 kb3 [(.int (c0.toInt8.toInt32)), (.int (c1.toInt8.toInt32)), (.int (c2.toInt8.toInt32)), (.int (c3.toInt8.toInt32)), (.int (c4.toInt8.toInt32)), (.int (c5.toInt8.toInt32))] T3.heap n0 f4 fq3_0) hZ (hw _ (List.mem_of_getElem? (i := 60) rfl)) (hw _ (List.mem_of_getElem? (i := 53) rfl)) (by decide) (by decide)) (g := (mkF m 45 #[rv a, rv va, iv (0 : Int32), iv (6 : Int32), .val .null, rv t3] [(.int (6 : Int32)), (.ref t3), (.ref a)])) rfl (by rw [hml]; rfl) (argsL := [(.ref t3), (.int (6 : Int32))]) (rest := [(.ref a)]) (lenOf pd___BI_B rfl) rfl (by show 2 * 0 + _ ≤ _; exact Nat.le_of_eq rfl) (hb hby d8_45) rfl rfl (by decide) (by decide) (c' := 1) (s' := 6) rfl rfl
  obtain ⟨rfl, Nq5, eq5⟩ := hQ5
  have N5 := Fr.app N3 Nq5
  refine own_st (T' := T5) (g' := (mkF m 48 #[rv a, rv va, iv (0 : Int32), iv (6 : Int32), .val .null, rv t3] [(.int (0 : Int32)), (.ref a)])) st5 ?_
  clear st5
  have f6 : Exa Z T3.heap a "java/lang/String" := EA.keep K3
  have f7 : Fld Z T3.heap a "java/lang/String" "coder" "B" (.int (0 : Int32)) := FC.keep K3 nin0
  obtain ⟨T8, h8, X8, e8, W8, st8⟩ := putFN X5 hx hZ hown (hw _ (List.mem_of_getElem? (i := 26) rfl)) Via.refl eq5 f7 f6 (Or.inr ⟨(hw _ (List.mem_of_getElem? (i := 10) rfl)), rfl, hnm⟩) (hw _ (List.mem_of_getElem? (i := 7) rfl)) (ty := .byte) (v' := (.int (0 : Int32))) (by decide) rfl (by decide) (g := (mkF m 48 #[rv a, rv va, iv (0 : Int32), iv (6 : Int32), .val .null, rv t3] [(.int (0 : Int32)), (.ref a)])) rfl rfl (hb hby d8_48)
  have Fw8 : Fld Z h8 a "java/lang/String" "coder" "B" (.int (0 : Int32)) := Fld.same W8 f7
  have N8 := Fr.snoc X8 N5 fa
  refine own_st (T' := T8) (g' := (mkF m 51 #[rv a, rv va, iv (0 : Int32), iv (6 : Int32), .val .null, rv t3] [])) st8 ?_
  clear st8
  refine own_st (T' := T8) (g' := (mkF m 52 #[rv a, rv va, iv (0 : Int32), iv (6 : Int32), .val .null, rv t3] [(.ref a)])) (fun _ k_ => XS.aloadN X8.here hx rfl (hb hby d8_51) rfl rfl  k_) ?_
  refine own_st (T' := T8) (g' := (mkF m 54 #[rv a, rv va, iv (0 : Int32), iv (6 : Int32), .val .null, rv t3] [(.ref t3), (.ref a)])) (fun _ k_ => XS.aload X8.here hx rfl (hb hby d8_52) rfl rfl  k_) ?_
  have f9 : Exa Z h8 a "java/lang/String" := f6.wr W8
  have f10 : Fld Z T3.heap a "java/lang/String" "value" "[B" .null := FV.keep K3 nin0
  have f11 : Fld Z h8 a "java/lang/String" "value" "[B" .null := f10.other W8 (Or.inr (slot_ne (Or.inr (hw _ (List.mem_of_getElem? (i := 9) rfl))) (Or.inr (hw _ (List.mem_of_getElem? (i := 10) rfl))) (by decide) (t := (.array .byte)) (t' := .byte) (by decide) (by decide)))
  obtain ⟨T12, h12, X12, e12, W12, st12⟩ := putF X8 hx hZ hown (host := "") (Or.inl (hw _ (List.mem_of_getElem? (i := 27) rfl))) Via.refl e8 f11 f9 (Or.inr ⟨(hw _ (List.mem_of_getElem? (i := 9) rfl)), rfl, hnm⟩) (hw _ (List.mem_of_getElem? (i := 7) rfl)) (ty := (.array .byte)) (by decide) rfl rfl (g := (mkF m 54 #[rv a, rv va, iv (0 : Int32), iv (6 : Int32), .val .null, rv t3] [(.ref t3), (.ref a)])) rfl rfl (hb hby d8_54)
  have Fw12 : Fld Z h12 a "java/lang/String" "value" "[B" (.ref t3) := Fld.same W12 f11
  have N12 := Fr.snoc X12 N8 fa
  refine own_st (T' := T12) (g' := (mkF m 57 #[rv a, rv va, iv (0 : Int32), iv (6 : Int32), .val .null, rv t3] [])) st12 ?_
  clear st12
  have f13 : Keep h0 T3.heap [a] := (Keep.refl h0 [a]).trans K3 all0
  have f14 : Keep h0 h8 [a] := f13.wr W8 (Or.inl (List.mem_of_getElem? (i := 0) rfl))
  have f15 : Keep h0 h12 [a] := f14.wr W12 (Or.inl (List.mem_of_getElem? (i := 0) rfl))
  have f16 : Exa Z h12 a "java/lang/String" := f9.wr W12
  have f17 : Fld Z h12 a "java/lang/String" "coder" "B" (.int (0 : Int32)) := Fw8.other W12 (Or.inr (slot_ne (Or.inr (hw _ (List.mem_of_getElem? (i := 10) rfl))) (Or.inr (hw _ (List.mem_of_getElem? (i := 9) rfl))) (by decide) (t := .byte) (t' := (.array .byte)) (by decide) (by decide)))
  have ne18 : a ≠ t3 := Nat.ne_of_lt (Nat.lt_of_lt_of_le EA.lt xq3_fresh_t)
  have f19 : Arv Z h8 t3 kb3 .byte (6 : Int32) [(.int (c0.toInt8.toInt32)), (.int (c1.toInt8.toInt32)), (.int (c2.toInt8.toInt32)), (.int (c3.toInt8.toInt32)), (.int (c4.toInt8.toInt32)), (.int (c5.toInt8.toInt32))] (.int (0 : Int32)) := fq3_0.other W8 (Ne.symm ne18)
  have f20 : Arv Z h12 t3 kb3 .byte (6 : Int32) [(.int (c0.toInt8.toInt32)), (.int (c1.toInt8.toInt32)), (.int (c2.toInt8.toInt32)), (.int (c3.toInt8.toInt32)), (.int (c4.toInt8.toInt32)), (.int (c5.toInt8.toInt32))] (.int (0 : Int32)) := f19.other W12 (Ne.symm ne18)
  exact own_retV X12 hx hret hlk (hb hby d8_57) (by decide) (by decide) (by rw [e12]; exact ⟨t3, kb3, rfl, N12, f15, f16, f17, Fw12, f20, (Nat.le_trans (Keep.refl h0 [a]).1 xq3_fresh_t)⟩)
theorem d7_0 : decode jdk_42_method_3_code 0 = .ok (.aload_n 0, 1) := by decide +kernel
theorem d7_1 : decode jdk_42_method_3_code 1 = .ok (.aload_n 1, 1) := by decide +kernel
theorem d7_2 : decode jdk_42_method_3_code 2 = .ok (.iconst 0, 1) := by decide +kernel
theorem d7_3 : decode jdk_42_method_3_code 3 = .ok (.aload_n 1, 1) := by decide +kernel
theorem d7_4 : decode jdk_42_method_3_code 4 = .ok (.arraylength, 1) := by decide +kernel
theorem d7_5 : decode jdk_42_method_3_code 5 = .ok (.aconst_null, 1) := by decide +kernel
theorem d7_6 : decode jdk_42_method_3_code 6 = .ok (.invokespecial 27, 3) := by decide +kernel
theorem d7_9 : decode jdk_42_method_3_code 9 = .ok (.return_, 1) := by decide +kernel
theorem pd___CIILjava_lang_Void__V : parseMethodDescriptor "([CIILjava/lang/Void;)V" = some ⟨[(.array .char), .int, .int, (.object "java/lang/Void")], none⟩ := by decide +kernel
theorem ef_ini1_6 (m : MethodId) (x0 : Addr) (x1 : Addr) : entryFrame m #[(.ref x0), (.ref x1)] 2 = mkF m 0 #[rv x0, rv x1] [] := by first | (simp [entryFrame, mkF, argsToLocals, Value.category]; done) | rfl
def Q_ini1_6 (Z : State) (a : Addr) (va : Addr) (kc : ClassId) (cz : Int32) (c0 : Int32) (c1 : Int32) (c2 : Int32) (c3 : Int32) (c4 : Int32) (c5 : Int32) (h0 : Heap) (n0 : Nat) (v : Option Value) (h : Heap) (L : List Loc) : Prop := ∃ (t : Addr) (kb : ClassId), (v = none) ∧ (Fr n0 L) ∧ (Keep h0 h [a]) ∧ (Exa Z h a "java/lang/String") ∧ (Fld Z h a "java/lang/String" "coder" "B" (.int (0 : Int32))) ∧ (Fld Z h a "java/lang/String" "value" "[B" (.ref t)) ∧ (Arv Z h t kb .byte (6 : Int32) [(.int (c0.toInt8.toInt32)), (.int (c1.toInt8.toInt32)), (.int (c2.toInt8.toInt32)), (.int (c3.toInt8.toInt32)), (.int (c4.toInt8.toInt32)), (.int (c5.toInt8.toInt32))] (.int (0 : Int32))) ∧ (h0.size ≤ t)
set_option maxRecDepth 65536 in
set_option maxHeartbeats 40000000 in
theorem rm_ini1_6 (l : Launch) (Z : State) (a0 : Array Value) (hw : ∀ d ∈ tables_1, d.before a0 Z = true) (ws : List Jvm.Cond) (a : Addr) (va : Addr) (kc : ClassId) (cz : Int32) (c0 : Int32) (c1 : Int32) (c2 : Int32) (c3 : Int32) (c4 : Int32) (c5 : Int32) (h0 : Heap) (n0 : Nat) (O0 : Old Z n0 h0) (EA : Exa Z h0 a "java/lang/String") (FV : Fld Z h0 a "java/lang/String" "value" "[B" .null) (FC : Fld Z h0 a "java/lang/String" "coder" "B" (.int (0 : Int32))) (fa : n0 ≤ a) (VA : Arv Z h0 va kc .char (6 : Int32) [(.int c0), (.int c1), (.int c2), (.int c3), (.int c4), (.int c5)] (.int (0 : Int32))) (SC : Sta Z Z.heap "java/lang/String" "COMPACT_STRINGS" "Z" (.int cz)) (hcz : ¬ cz = (0 : Int32)) (hp0 : ¬ (255 : Int32) < c0) (hp1 : ¬ (255 : Int32) < c1) (hp2 : ¬ (255 : Int32) < c2) (hp3 : ¬ (255 : Int32) < c3) (hp4 : ¬ (255 : Int32) < c4) (hp5 : ¬ (255 : Int32) < c5) :
    MetFree l own_m4 (head1 (Jvm.Cond.code own_m4 jdk_42_method_3_code 2 none :: ws) ({ frames := 3, cells := 1, slots := 6, locals := 52 } : Room)) (fun ar_ U => ar_ = #[(.ref a), (.ref va)] ∧ Z.Warmed39 U.vm ∧ U.heap = h0) (fun _ _ _ _ _ => True) (fun _ U o U' => ∃ v L, o = .returned v ∧ Q_ini1_6 Z a va kc cz c0 c1 c2 c3 c4 c5 h0 n0 v U'.heap L ∧ FrameEnd U o U' L ({ frames := 3, cells := 1, slots := 6, locals := 52 } : Room).cells ({ frames := 3, cells := 1, slots := 6, locals := 52 } : Room).slots) := by
  refine MetFree.of_bodySF (plainFor_of_name pn_1) hisR ?_
  intro p e s m args below meth c s₁ Bd hml0 hP hK
  obtain ⟨rfl, hZ, hh⟩ := hP
  have hx := Bd.exec
  have hby := Bd.bytes
  have hml : c.maxLocals = 2 := hml0
  have hown : s.vm.findClass "java/lang/String" = some m.cls := findClass_of_methodNamed Bd.named
  have hnm := (name_of_methodNamed Bd.named Bd.method).1
  have X0 : Stand p l e ({ frames := 3, cells := 1, slots := 6, locals := 52 } : Room) s m #[(.ref a), (.ref va)] below meth c s₁ [] 0 0 := Stand.of_body Bd
  have e0 : s₁.heap = h0 := by rw [← hh, Bd.state]; rfl
  have N0 := Fr.nil n0
  have hret := Bd.returns
  have hlk : meth.locks = false := Bd.notSynchronized
  show own_E p e below s ({ frames := 3, cells := 1, slots := 6, locals := 52 } : Room).cells ({ frames := 3, cells := 1, slots := 6, locals := 52 } : Room).slots (Q_ini1_6 Z a va kc cz c0 c1 c2 c3 c4 c5 h0 n0) s₁ (entryFrame m #[(.ref a), (.ref va)] 2)
  rw [ef_ini1_6 m a va]
  refine own_st (T' := s₁) (g' := (mkF m 1 #[rv a, rv va] [(.ref a)])) (fun _ k_ => XS.aloadN X0.here hx rfl (hb hby d7_0) rfl rfl  k_) ?_
  refine own_st (T' := s₁) (g' := (mkF m 2 #[rv a, rv va] [(.ref va), (.ref a)])) (fun _ k_ => XS.aloadN X0.here hx rfl (hb hby d7_1) rfl rfl  k_) ?_
  refine own_st (T' := s₁) (g' := (mkF m 3 #[rv a, rv va] [(.int (0 : Int32)), (.ref va), (.ref a)])) (fun _ k_ => XS.iconst X0.here hx rfl (hb hby d7_2) k_) ?_
  refine own_st (T' := s₁) (g' := (mkF m 4 #[rv a, rv va] [(.ref va), (.int (0 : Int32)), (.ref va), (.ref a)])) (fun _ k_ => XS.aloadN X0.here hx rfl (hb hby d7_3) rfl rfl  k_) ?_
  obtain ⟨cl1, Ar1, -, S1, N1, -, -⟩ := id VA
  refine own_st (T' := s₁) (g' := (mkF m 5 #[rv a, rv va] [(.int (6 : Int32)), (.int (0 : Int32)), (.ref va), (.ref a)])) (fun t_ k_ => X0.arraylength hx (by rw [e0]; exact Ar1.1) (State.isArrayOf_alike hZ.alike Ar1.2.1) (g := (mkF m 4 #[rv a, rv va] [(.ref va), (.int (0 : Int32)), (.ref va), (.ref a)])) rfl rfl (hb hby d7_4) _ (by rw [len_of S1 N1]; exact k_)) ?_
  refine own_st (T' := s₁) (g' := (mkF m 6 #[rv a, rv va] [.null, (.int (6 : Int32)), (.int (0 : Int32)), (.ref va), (.ref a)])) (fun _ k_ => XS.aconstNull X0.here hx rfl (hb hby d7_5) k_) ?_
  obtain ⟨_, T2, L2, X2, hQ2, st2⟩ := own_callI X0 hx (y := own_m3) rfl hown (mvT hZ (hw _ (List.mem_of_getElem? (i := 44) rfl))) (mvT hZ (hw _ (List.mem_of_getElem? (i := 45) rfl))) (mvT hZ (hw _ (List.mem_of_getElem? (i := 47) rfl))) (by decide) (backOf (W := 0) (rm_ini4_6 l Z a0 hw [] a va kc cz c0 c1 c2 c3 c4 c5 h0 n0 O0 EA FV FC fa VA SC hcz hp0 hp1 hp2 hp3 hp4 hp5) hZ (hw _ (List.mem_of_getElem? (i := 47) rfl)) (hw _ (List.mem_of_getElem? (i := 6) rfl)) (by decide) (by decide)) (g := (mkF m 6 #[rv a, rv va] [.null, (.int (6 : Int32)), (.int (0 : Int32)), (.ref va), (.ref a)])) rfl (by rw [hml]; rfl) (a := a) (argsL := [(.ref va), (.int (0 : Int32)), (.int (6 : Int32)), .null]) (rest := []) (lenOf pd___CIILjava_lang_Void__V rfl) rfl (by show 2 * 0 + _ ≤ _; exact Nat.le_of_eq rfl) (hb hby d7_6) rfl e0 (by decide) (by decide) (c' := 1) (s' := 6) rfl rfl
  obtain ⟨t2, kb2, rfl, Nq2, K2, fq2_0, fq2_1, fq2_2, fq2_3, xq2_fresh_t⟩ := hQ2
  have N2 := Fr.app N0 Nq2
  refine own_st (T' := T2) (g' := (mkF m 9 #[rv a, rv va] [])) st2 ?_
  clear st2
  have f3 : Keep h0 T2.heap [a] := (Keep.refl h0 [a]).trans K2 (allS (Or.inl (List.mem_of_getElem? (i := 0) rfl)) all0)
  exact own_retV X2 hx hret hlk (hb hby d7_9) (by decide) (by decide) ⟨t2, kb2, rfl, N2, f3, fq2_0, fq2_1, fq2_2, fq2_3, (Nat.le_trans (Keep.refl h0 [a]).1 xq2_fresh_t)⟩
theorem own_sh0 (x : Int32) : x >>> ((0 : Int32) &&& 31) = x := by
  show x >>> (0 : Int32) = x
  simp
theorem d16_0 : decode jdk_42_method_152_code 0 = .ok (.getstatic 38, 3) := by decide +kernel
theorem d16_3 : decode jdk_42_method_152_code 3 = .ok (.ifCond .eq 10, 3) := by decide +kernel
theorem d16_6 : decode jdk_42_method_152_code 6 = .ok (.aload_n 0, 1) := by decide +kernel
theorem d16_7 : decode jdk_42_method_152_code 7 = .ok (.getfield 15, 3) := by decide +kernel
theorem d16_10 : decode jdk_42_method_152_code 10 = .ok (.goto 4, 3) := by decide +kernel
theorem d16_14 : decode jdk_42_method_152_code 14 = .ok (.ireturn, 1) := by decide +kernel
theorem ef_coder (m : MethodId) (x0 : Addr) : entryFrame m #[(.ref x0)] 1 = mkF m 0 #[rv x0] [] := by first | (simp [entryFrame, mkF, argsToLocals, Value.category]; done) | rfl
def Q_coder (Z : State) (x : Addr) (cz : Int32) (h0 : Heap) (n0 : Nat) (v : Option Value) (h : Heap) (L : List Loc) : Prop := (v = some (.int (0 : Int32))) ∧ (Fr n0 L) ∧ (h = h0)
set_option maxRecDepth 65536 in
set_option maxHeartbeats 40000000 in
theorem rm_coder (l : Launch) (Z : State) (a0 : Array Value) (hw : ∀ d ∈ tables_1, d.before a0 Z = true) (ws : List Jvm.Cond) (x : Addr) (cz : Int32) (h0 : Heap) (n0 : Nat) (O0 : Old Z n0 h0) (E_x : Exa Z h0 x "java/lang/String") (C_x : Fld Z h0 x "java/lang/String" "coder" "B" (.int (0 : Int32))) (SC : Sta Z Z.heap "java/lang/String" "COMPACT_STRINGS" "Z" (.int cz)) (hcz : ¬ cz = (0 : Int32)) :
    MetFree l own_m5 (head1 (Jvm.Cond.code own_m5 jdk_42_method_152_code 1 (some .byte) :: ws) ({ frames := 0, cells := 0, slots := 0, locals := 0 } : Room)) (fun ar_ U => ar_ = #[(.ref x)] ∧ Z.Warmed39 U.vm ∧ U.heap = h0) (fun _ _ _ _ _ => True) (fun _ U o U' => ∃ v L, o = .returned v ∧ Q_coder Z x cz h0 n0 v U'.heap L ∧ FrameEnd U o U' L ({ frames := 0, cells := 0, slots := 0, locals := 0 } : Room).cells ({ frames := 0, cells := 0, slots := 0, locals := 0 } : Room).slots) := by
  refine MetFree.of_bodySF (plainFor_of_name pn_1) hisR ?_
  intro p e s m args below meth c s₁ Bd hml0 hP hK
  obtain ⟨rfl, hZ, hh⟩ := hP
  have hx := Bd.exec
  have hby := Bd.bytes
  have hml : c.maxLocals = 1 := hml0
  have hown : s.vm.findClass "java/lang/String" = some m.cls := findClass_of_methodNamed Bd.named
  have hnm := (name_of_methodNamed Bd.named Bd.method).1
  have X0 : Stand p l e ({ frames := 0, cells := 0, slots := 0, locals := 0 } : Room) s m #[(.ref x)] below meth c s₁ [] 0 0 := Stand.of_body Bd
  have e0 : s₁.heap = h0 := by rw [← hh, Bd.state]; rfl
  have N0 := Fr.nil n0
  have hret := Bd.returns
  have hlk : meth.locks = false := Bd.notSynchronized
  show own_E p e below s ({ frames := 0, cells := 0, slots := 0, locals := 0 } : Room).cells ({ frames := 0, cells := 0, slots := 0, locals := 0 } : Room).slots (Q_coder Z x cz h0 n0) s₁ (entryFrame m #[(.ref x)] 1)
  rw [ef_coder m x]
  obtain ⟨T1, X1, e1, st1⟩ := getS2 X0 hx hZ hown (host := "") (Or.inl (hw _ (List.mem_of_getElem? (i := 25) rfl))) Via.refl e0 (SC.ext O0.2) (g := (mkF m 0 #[rv x] [])) rfl (hb hby d16_0)
  refine own_st (T' := T1) (g' := (mkF m 3 #[rv x] [(.int cz)])) st1 ?_
  clear st1
  refine own_st (T' := T1) (g' := (mkF m 6 #[rv x] [])) (fun _ k_ => XS.ifNo X1.here hx rfl (hb hby d16_3) rfl ((if0 _ _).trans (feq (hcz : ¬ (cz = (0 : Int32)))).1) k_) ?_
  refine own_st (T' := T1) (g' := (mkF m 7 #[rv x] [(.ref x)])) (fun _ k_ => XS.aloadN X1.here hx rfl (hb hby d16_6) rfl rfl  k_) ?_
  obtain ⟨T2, X2, e2, st2⟩ := getF X1 hx hZ hown (host := "") (Or.inl (hw _ (List.mem_of_getElem? (i := 26) rfl))) Via.refl e1 C_x (g := (mkF m 7 #[rv x] [(.ref x)])) rfl rfl (hb hby d16_7)
  refine own_st (T' := T2) (g' := (mkF m 10 #[rv x] [(.int (0 : Int32))])) st2 ?_
  clear st2
  refine own_st (T' := T2) (g' := (mkF m 14 #[rv x] [(.int (0 : Int32))])) (fun _ k_ => XS.goto X2.here hx rfl (pc0 := 10) (pc' := 14) rfl (hb hby d16_10) (by decide) (by decide) k_) ?_
  exact own_retN X2 hx (t := .byte) hret (by simp) hlk (hb hby d16_14) (by decide) (by decide) ⟨rfl, N0, e2⟩
theorem d15_0 : decode jdk_42_method_54_code 0 = .ok (.aload_n 0, 1) := by decide +kernel
theorem d15_1 : decode jdk_42_method_54_code 1 = .ok (.getfield 9, 3) := by decide +kernel
theorem d15_4 : decode jdk_42_method_54_code 4 = .ok (.arraylength, 1) := by decide +kernel
theorem d15_5 : decode jdk_42_method_54_code 5 = .ok (.aload_n 0, 1) := by decide +kernel
theorem d15_6 : decode jdk_42_method_54_code 6 = .ok (.invokevirtual 335, 3) := by decide +kernel
theorem d15_9 : decode jdk_42_method_54_code 9 = .ok (.ishr, 1) := by decide +kernel
theorem d15_10 : decode jdk_42_method_54_code 10 = .ok (.ireturn, 1) := by decide +kernel
theorem pd___B : parseMethodDescriptor "()B" = some ⟨[], some .byte⟩ := by decide +kernel
theorem ef_len (m : MethodId) (x0 : Addr) : entryFrame m #[(.ref x0)] 1 = mkF m 0 #[rv x0] [] := by first | (simp [entryFrame, mkF, argsToLocals, Value.category]; done) | rfl
def Q_len (Z : State) (x : Addr) (t : Addr) (kt : ClassId) (nn : Int32) (vs : List Value) (cz : Int32) (h0 : Heap) (n0 : Nat) (v : Option Value) (h : Heap) (L : List Loc) : Prop := (v = some (.int nn)) ∧ (Fr n0 L) ∧ (h = h0)
set_option maxRecDepth 65536 in
set_option maxHeartbeats 40000000 in
theorem rm_len (l : Launch) (Z : State) (a0 : Array Value) (hw : ∀ d ∈ tables_1, d.before a0 Z = true) (ws : List Jvm.Cond) (x : Addr) (t : Addr) (kt : ClassId) (nn : Int32) (vs : List Value) (cz : Int32) (h0 : Heap) (n0 : Nat) (O0 : Old Z n0 h0) (E_x : Exa Z h0 x "java/lang/String") (V_x : Fld Z h0 x "java/lang/String" "value" "[B" (.ref t)) (C_x : Fld Z h0 x "java/lang/String" "coder" "B" (.int (0 : Int32))) (A_x : Arv Z h0 t kt .byte nn vs (.int (0 : Int32))) (SC : Sta Z Z.heap "java/lang/String" "COMPACT_STRINGS" "Z" (.int cz)) (hcz : ¬ cz = (0 : Int32)) :
    MetFree l own_m6 (head1 (Jvm.Cond.code own_m6 jdk_42_method_54_code 1 (some .int) :: ws) ({ frames := 1, cells := 0, slots := 0, locals := 13 } : Room)) (fun ar_ U => ar_ = #[(.ref x)] ∧ Z.Warmed39 U.vm ∧ U.heap = h0) (fun _ _ _ _ _ => True) (fun _ U o U' => ∃ v L, o = .returned v ∧ Q_len Z x t kt nn vs cz h0 n0 v U'.heap L ∧ FrameEnd U o U' L ({ frames := 1, cells := 0, slots := 0, locals := 13 } : Room).cells ({ frames := 1, cells := 0, slots := 0, locals := 13 } : Room).slots) := by
  refine MetFree.of_bodySF (plainFor_of_name pn_1) hisR ?_
  intro p e s m args below meth c s₁ Bd hml0 hP hK
  obtain ⟨rfl, hZ, hh⟩ := hP
  have hx := Bd.exec
  have hby := Bd.bytes
  have hml : c.maxLocals = 1 := hml0
  have hown : s.vm.findClass "java/lang/String" = some m.cls := findClass_of_methodNamed Bd.named
  have hnm := (name_of_methodNamed Bd.named Bd.method).1
  have X0 : Stand p l e ({ frames := 1, cells := 0, slots := 0, locals := 13 } : Room) s m #[(.ref x)] below meth c s₁ [] 0 0 := Stand.of_body Bd
  have e0 : s₁.heap = h0 := by rw [← hh, Bd.state]; rfl
  have N0 := Fr.nil n0
  have hret := Bd.returns
  have hlk : meth.locks = false := Bd.notSynchronized
  show own_E p e below s ({ frames := 1, cells := 0, slots := 0, locals := 13 } : Room).cells ({ frames := 1, cells := 0, slots := 0, locals := 13 } : Room).slots (Q_len Z x t kt nn vs cz h0 n0) s₁ (entryFrame m #[(.ref x)] 1)
  rw [ef_len m x]
  refine own_st (T' := s₁) (g' := (mkF m 1 #[rv x] [(.ref x)])) (fun _ k_ => XS.aloadN X0.here hx rfl (hb hby d15_0) rfl rfl  k_) ?_
  obtain ⟨T1, X1, e1, st1⟩ := getF X0 hx hZ hown (host := "") (Or.inl (hw _ (List.mem_of_getElem? (i := 27) rfl))) Via.refl e0 V_x (g := (mkF m 1 #[rv x] [(.ref x)])) rfl rfl (hb hby d15_1)
  refine own_st (T' := T1) (g' := (mkF m 4 #[rv x] [(.ref t)])) st1 ?_
  clear st1
  obtain ⟨cl2, Ar2, -, S2, N2, -, -⟩ := id A_x
  refine own_st (T' := T1) (g' := (mkF m 5 #[rv x] [(.int nn)])) (fun t_ k_ => X1.arraylength hx (by rw [e1]; exact Ar2.1) (State.isArrayOf_alike hZ.alike Ar2.2.1) (g := (mkF m 4 #[rv x] [(.ref t)])) rfl rfl (hb hby d15_4) _ (by rw [len_of S2 N2]; exact k_)) ?_
  refine own_st (T' := T1) (g' := (mkF m 6 #[rv x] [(.ref x), (.int nn)])) (fun _ k_ => XS.aloadN X1.here hx rfl (hb hby d15_5) rfl rfl  k_) ?_
  obtain ⟨cq3, kq3, q3a, q3b, q3c⟩ := isOf hZ e1 E_x
  obtain ⟨_, T3, L3, X3, hQ3, st3⟩ := own_callV X1 hx (y := own_m5) (z := own_m5) hown (mvT hZ (hw _ (List.mem_of_getElem? (i := 75) rfl))) (mvT hZ (hw _ (List.mem_of_getElem? (i := 76) rfl))) (notFace_of_selects (args := #[]) (mvT hZ (hw _ (List.mem_of_getElem? (i := 78) rfl)))) (mvT hZ (hw _ (List.mem_of_getElem? (i := 78) rfl))) (mvT hZ (hw _ (List.mem_of_getElem? (i := 77) rfl))) (by decide) (backOf (W := 1) (rm_coder l Z a0 hw [] x cz h0 n0 O0 E_x C_x SC hcz) hZ (hw _ (List.mem_of_getElem? (i := 79) rfl)) (hw _ (List.mem_of_getElem? (i := 6) rfl)) (by decide) (by decide)) q3a q3c (g := (mkF m 6 #[rv x] [(.ref x), (.int nn)])) rfl (by rw [hml]; rfl) (argsL := []) (rest := [(.int nn)]) (lenOf pd___B rfl) rfl (by show 2 * 0 + _ ≤ _; exact Nat.le_of_eq rfl) (hb hby d15_6) rfl e1 (by decide) (by decide) (c' := 0) (s' := 0) rfl rfl
  clear q3a q3b q3c kq3 cq3
  obtain ⟨rfl, Nq3, eq3⟩ := hQ3
  have N3 := Fr.app N0 Nq3
  refine own_st (T' := T3) (g' := (mkF m 9 #[rv x] [(.int (0 : Int32)), (.int nn)])) st3 ?_
  clear st3
  refine own_st (T' := T3) (g' := (mkF m 10 #[rv x] [(.int (nn >>> ((0 : Int32) &&& 31)))])) (fun _ k_ => XS.ishr X3.here hx rfl (hb hby d15_9) rfl k_) ?_
  exact own_retI X3 hx hret hlk (hb hby d15_10) (by decide) (by decide) ⟨congrArg (fun z => some (Value.int z)) (own_sh0 nn), N3, eq3⟩
theorem d3_0 : decode jdk_42_method_154_code 0 = .ok (.getstatic 38, 3) := by decide +kernel
theorem d3_3 : decode jdk_42_method_154_code 3 = .ok (.ifCond .eq 14, 3) := by decide +kernel
theorem d3_6 : decode jdk_42_method_154_code 6 = .ok (.aload_n 0, 1) := by decide +kernel
theorem d3_7 : decode jdk_42_method_154_code 7 = .ok (.getfield 15, 3) := by decide +kernel
theorem d3_10 : decode jdk_42_method_154_code 10 = .ok (.ifCond .ne 7, 3) := by decide +kernel
theorem d3_13 : decode jdk_42_method_154_code 13 = .ok (.iconst 1, 1) := by decide +kernel
theorem d3_14 : decode jdk_42_method_154_code 14 = .ok (.goto 4, 3) := by decide +kernel
theorem d3_18 : decode jdk_42_method_154_code 18 = .ok (.ireturn, 1) := by decide +kernel
theorem ef_isl1 (m : MethodId) (x0 : Addr) : entryFrame m #[(.ref x0)] 1 = mkF m 0 #[rv x0] [] := by first | (simp [entryFrame, mkF, argsToLocals, Value.category]; done) | rfl
def Q_isl1 (Z : State) (x : Addr) (cz : Int32) (h0 : Heap) (n0 : Nat) (v : Option Value) (h : Heap) (L : List Loc) : Prop := (v = some (.int (1 : Int32))) ∧ (Fr n0 L) ∧ (h = h0)
set_option maxRecDepth 65536 in
set_option maxHeartbeats 40000000 in
theorem rm_isl1 (l : Launch) (Z : State) (a0 : Array Value) (hw : ∀ d ∈ tables_1, d.before a0 Z = true) (ws : List Jvm.Cond) (x : Addr) (cz : Int32) (h0 : Heap) (n0 : Nat) (O0 : Old Z n0 h0) (E_x : Exa Z h0 x "java/lang/String") (C_x : Fld Z h0 x "java/lang/String" "coder" "B" (.int (0 : Int32))) (SC : Sta Z Z.heap "java/lang/String" "COMPACT_STRINGS" "Z" (.int cz)) (hcz : ¬ cz = (0 : Int32)) :
    MetFree l own_m7 (head1 (Jvm.Cond.code own_m7 jdk_42_method_154_code 1 (some .boolean) :: ws) ({ frames := 0, cells := 0, slots := 0, locals := 0 } : Room)) (fun ar_ U => ar_ = #[(.ref x)] ∧ Z.Warmed39 U.vm ∧ U.heap = h0) (fun _ _ _ _ _ => True) (fun _ U o U' => ∃ v L, o = .returned v ∧ Q_isl1 Z x cz h0 n0 v U'.heap L ∧ FrameEnd U o U' L ({ frames := 0, cells := 0, slots := 0, locals := 0 } : Room).cells ({ frames := 0, cells := 0, slots := 0, locals := 0 } : Room).slots) := by
  refine MetFree.of_bodySF (plainFor_of_name pn_1) hisR ?_
  intro p e s m args below meth c s₁ Bd hml0 hP hK
  obtain ⟨rfl, hZ, hh⟩ := hP
  have hx := Bd.exec
  have hby := Bd.bytes
  have hml : c.maxLocals = 1 := hml0
  have hown : s.vm.findClass "java/lang/String" = some m.cls := findClass_of_methodNamed Bd.named
  have hnm := (name_of_methodNamed Bd.named Bd.method).1
  have X0 : Stand p l e ({ frames := 0, cells := 0, slots := 0, locals := 0 } : Room) s m #[(.ref x)] below meth c s₁ [] 0 0 := Stand.of_body Bd
  have e0 : s₁.heap = h0 := by rw [← hh, Bd.state]; rfl
  have N0 := Fr.nil n0
  have hret := Bd.returns
  have hlk : meth.locks = false := Bd.notSynchronized
  show own_E p e below s ({ frames := 0, cells := 0, slots := 0, locals := 0 } : Room).cells ({ frames := 0, cells := 0, slots := 0, locals := 0 } : Room).slots (Q_isl1 Z x cz h0 n0) s₁ (entryFrame m #[(.ref x)] 1)
  rw [ef_isl1 m x]
  obtain ⟨T1, X1, e1, st1⟩ := getS2 X0 hx hZ hown (host := "") (Or.inl (hw _ (List.mem_of_getElem? (i := 25) rfl))) Via.refl e0 (SC.ext O0.2) (g := (mkF m 0 #[rv x] [])) rfl (hb hby d3_0)
  refine own_st (T' := T1) (g' := (mkF m 3 #[rv x] [(.int cz)])) st1 ?_
  clear st1
  refine own_st (T' := T1) (g' := (mkF m 6 #[rv x] [])) (fun _ k_ => XS.ifNo X1.here hx rfl (hb hby d3_3) rfl ((if0 _ _).trans (feq (hcz : ¬ (cz = (0 : Int32)))).1) k_) ?_
  refine own_st (T' := T1) (g' := (mkF m 7 #[rv x] [(.ref x)])) (fun _ k_ => XS.aloadN X1.here hx rfl (hb hby d3_6) rfl rfl  k_) ?_
  obtain ⟨T2, X2, e2, st2⟩ := getF X1 hx hZ hown (host := "") (Or.inl (hw _ (List.mem_of_getElem? (i := 26) rfl))) Via.refl e1 C_x (g := (mkF m 7 #[rv x] [(.ref x)])) rfl rfl (hb hby d3_7)
  refine own_st (T' := T2) (g' := (mkF m 10 #[rv x] [(.int (0 : Int32))])) st2 ?_
  clear st2
  refine own_st (T' := T2) (g' := (mkF m 13 #[rv x] [])) (fun _ k_ => XS.ifNo X2.here hx rfl (hb hby d3_10) rfl ((if0 _ _).trans (teq (rfl : (0 : Int32) = (0 : Int32))).2) k_) ?_
  refine own_st (T' := T2) (g' := (mkF m 14 #[rv x] [(.int (1 : Int32))])) (fun _ k_ => XS.iconst X2.here hx rfl (hb hby d3_13) k_) ?_
  refine own_st (T' := T2) (g' := (mkF m 18 #[rv x] [(.int (1 : Int32))])) (fun _ k_ => XS.goto X2.here hx rfl (pc0 := 14) (pc' := 18) rfl (hb hby d3_14) (by decide) (by decide) k_) ?_
  exact own_retN X2 hx (t := .boolean) hret (by simp) hlk (hb hby d3_18) (by decide) (by decide) ⟨rfl, N0, e2⟩
theorem d20_0 : decode jdk_29_method_69_code 0 = .ok (.iload_n 0, 1) := by decide +kernel
theorem d20_1 : decode jdk_29_method_69_code 1 = .ok (.iload_n 1, 1) := by decide +kernel
theorem d20_2 : decode jdk_29_method_69_code 2 = .ok (.if_icmp .gt 7, 3) := by decide +kernel
theorem d20_5 : decode jdk_29_method_69_code 5 = .ok (.iload_n 0, 1) := by decide +kernel
theorem d20_6 : decode jdk_29_method_69_code 6 = .ok (.goto 4, 3) := by decide +kernel
theorem d20_10 : decode jdk_29_method_69_code 10 = .ok (.ireturn, 1) := by decide +kernel
theorem ef_min (m : MethodId) (x0 : Int32) (x1 : Int32) : entryFrame m #[(.int x0), (.int x1)] 2 = mkF m 0 #[iv x0, iv x1] [] := by first | (simp [entryFrame, mkF, argsToLocals, Value.category]; done) | rfl
def Q_min (Z : State) (xx : Int32) (yy : Int32) (h0 : Heap) (n0 : Nat) (v : Option Value) (h : Heap) (L : List Loc) : Prop := (v = some (.int xx)) ∧ (Fr n0 L) ∧ (h = h0)
set_option maxRecDepth 65536 in
set_option maxHeartbeats 40000000 in
theorem rm_min (l : Launch) (Z : State) (a0 : Array Value) (hw : ∀ d ∈ tables_1, d.before a0 Z = true) (ws : List Jvm.Cond) (xx : Int32) (yy : Int32) (h0 : Heap) (n0 : Nat) (O0 : Old Z n0 h0) (hmin : ¬ yy < xx) :
    MetFree l own_m8 (head1 (Jvm.Cond.code own_m8 jdk_29_method_69_code 2 (some .int) :: ws) ({ frames := 0, cells := 0, slots := 0, locals := 0 } : Room)) (fun ar_ U => ar_ = #[(.int xx), (.int yy)] ∧ Z.Warmed39 U.vm ∧ U.heap = h0) (fun _ _ _ _ _ => True) (fun _ U o U' => ∃ v L, o = .returned v ∧ Q_min Z xx yy h0 n0 v U'.heap L ∧ FrameEnd U o U' L ({ frames := 0, cells := 0, slots := 0, locals := 0 } : Room).cells ({ frames := 0, cells := 0, slots := 0, locals := 0 } : Room).slots) := by
  refine MetFree.of_bodySF (Jvm.Free.JP.mathPlain rfl (by decide +kernel)) hisR ?_
  intro p e s m args below meth c s₁ Bd hml0 hP hK
  obtain ⟨rfl, hZ, hh⟩ := hP
  have hx := Bd.exec
  have hby := Bd.bytes
  have hml : c.maxLocals = 2 := hml0
  have hown : s.vm.findClass "java/lang/Math" = some m.cls := findClass_of_methodNamed Bd.named
  have hnm := (name_of_methodNamed Bd.named Bd.method).1
  have X0 : Stand p l e ({ frames := 0, cells := 0, slots := 0, locals := 0 } : Room) s m #[(.int xx), (.int yy)] below meth c s₁ [] 0 0 := Stand.of_body Bd
  have e0 : s₁.heap = h0 := by rw [← hh, Bd.state]; rfl
  have N0 := Fr.nil n0
  have hret := Bd.returns
  have hlk : meth.locks = false := Bd.notSynchronized
  show own_E p e below s ({ frames := 0, cells := 0, slots := 0, locals := 0 } : Room).cells ({ frames := 0, cells := 0, slots := 0, locals := 0 } : Room).slots (Q_min Z xx yy h0 n0) s₁ (entryFrame m #[(.int xx), (.int yy)] 2)
  rw [ef_min m xx yy]
  refine own_st (T' := s₁) (g' := (mkF m 1 #[iv xx, iv yy] [(.int xx)])) (fun _ k_ => XS.iloadN X0.here hx rfl (hb hby d20_0) rfl  k_) ?_
  refine own_st (T' := s₁) (g' := (mkF m 2 #[iv xx, iv yy] [(.int yy), (.int xx)])) (fun _ k_ => XS.iloadN X0.here hx rfl (hb hby d20_1) rfl  k_) ?_
  refine own_st (T' := s₁) (g' := (mkF m 5 #[iv xx, iv yy] [])) (fun _ k_ => XS.icmpNo X0.here hx rfl (hb hby d20_2) rfl (flt (hmin : ¬ (yy < xx))).2.2.1 k_) ?_
  refine own_st (T' := s₁) (g' := (mkF m 6 #[iv xx, iv yy] [(.int xx)])) (fun _ k_ => XS.iloadN X0.here hx rfl (hb hby d20_5) rfl  k_) ?_
  refine own_st (T' := s₁) (g' := (mkF m 10 #[iv xx, iv yy] [(.int xx)])) (fun _ k_ => XS.goto X0.here hx rfl (pc0 := 6) (pc' := 10) rfl (hb hby d20_6) (by decide) (by decide) k_) ?_
  exact own_retI X0 hx hret hlk (hb hby d20_10) (by decide) (by decide) ⟨rfl, N0, e0⟩
theorem d24_0 : decode jdk_41_method_12_code 0 = .ok (.iload_n 0, 1) := by decide +kernel
theorem d24_1 : decode jdk_41_method_12_code 1 = .ok (.ifCond .lt 13, 3) := by decide +kernel
theorem d24_4 : decode jdk_41_method_12_code 4 = .ok (.iload_n 0, 1) := by decide +kernel
theorem d24_5 : decode jdk_41_method_12_code 5 = .ok (.iload_n 1, 1) := by decide +kernel
theorem d24_6 : decode jdk_41_method_12_code 6 = .ok (.if_icmp .gt 8, 3) := by decide +kernel
theorem d24_9 : decode jdk_41_method_12_code 9 = .ok (.iload_n 1, 1) := by decide +kernel
theorem d24_10 : decode jdk_41_method_12_code 10 = .ok (.iload_n 2, 1) := by decide +kernel
theorem d24_11 : decode jdk_41_method_12_code 11 = .ok (.if_icmp .le 11, 3) := by decide +kernel
theorem d24_22 : decode jdk_41_method_12_code 22 = .ok (.iload_n 0, 1) := by decide +kernel
theorem d24_23 : decode jdk_41_method_12_code 23 = .ok (.ireturn, 1) := by decide +kernel
theorem pn_2 : plainName "jdk/internal/util/Preconditions" = true := by first | (simp [plainName, overriddenIn]; done) | decide +kernel
theorem ef_cft (m : MethodId) (x0 : Int32) (x1 : Int32) (x2 : Int32) (x3 : Value) (hx3 : x3.isRef = true) : entryFrame m #[(.int x0), (.int x1), (.int x2), x3] 4 = mkF m 0 #[iv x0, iv x1, iv x2, .val x3] [] := by
  rcases ref_cases hx3 with rfl | ⟨_, rfl⟩ <;> (first | (simp [entryFrame, mkF, argsToLocals, Value.category]; done) | rfl)
def Q_cft (Z : State) (fb : Int32) (fe : Int32) (fl : Int32) (fm : Value) (h0 : Heap) (n0 : Nat) (v : Option Value) (h : Heap) (L : List Loc) : Prop := (v = some (.int fb)) ∧ (Fr n0 L) ∧ (h = h0)
set_option maxRecDepth 65536 in
set_option maxHeartbeats 40000000 in
theorem rm_cft (l : Launch) (Z : State) (a0 : Array Value) (hw : ∀ d ∈ tables_1, d.before a0 Z = true) (ws : List Jvm.Cond) (fb : Int32) (fe : Int32) (fl : Int32) (fm : Value) (h0 : Heap) (n0 : Nat) (O0 : Old Z n0 h0) (hb0 : ¬ fb < (0 : Int32)) (hb1 : ¬ fe < fb) (hb2 : ¬ fl < fe) (hfm : fm.isRef = true) :
    MetFree l own_m9 (head1 (Jvm.Cond.code own_m9 jdk_41_method_12_code 4 (some .int) :: ws) ({ frames := 0, cells := 0, slots := 0, locals := 0 } : Room)) (fun ar_ U => ar_ = #[(.int fb), (.int fe), (.int fl), fm] ∧ Z.Warmed39 U.vm ∧ U.heap = h0) (fun _ _ _ _ _ => True) (fun _ U o U' => ∃ v L, o = .returned v ∧ Q_cft Z fb fe fl fm h0 n0 v U'.heap L ∧ FrameEnd U o U' L ({ frames := 0, cells := 0, slots := 0, locals := 0 } : Room).cells ({ frames := 0, cells := 0, slots := 0, locals := 0 } : Room).slots) := by
  refine MetFree.of_bodySF (plainFor_of_name pn_2) hisR ?_
  intro p e s m args below meth c s₁ Bd hml0 hP hK
  obtain ⟨rfl, hZ, hh⟩ := hP
  have hx := Bd.exec
  have hby := Bd.bytes
  have hml : c.maxLocals = 4 := hml0
  have hown : s.vm.findClass "jdk/internal/util/Preconditions" = some m.cls := findClass_of_methodNamed Bd.named
  have hnm := (name_of_methodNamed Bd.named Bd.method).1
  have X0 : Stand p l e ({ frames := 0, cells := 0, slots := 0, locals := 0 } : Room) s m #[(.int fb), (.int fe), (.int fl), fm] below meth c s₁ [] 0 0 := Stand.of_body Bd
  have e0 : s₁.heap = h0 := by rw [← hh, Bd.state]; rfl
  have N0 := Fr.nil n0
  have hret := Bd.returns
  have hlk : meth.locks = false := Bd.notSynchronized
  show own_E p e below s ({ frames := 0, cells := 0, slots := 0, locals := 0 } : Room).cells ({ frames := 0, cells := 0, slots := 0, locals := 0 } : Room).slots (Q_cft Z fb fe fl fm h0 n0) s₁ (entryFrame m #[(.int fb), (.int fe), (.int fl), fm] 4)
  rw [ef_cft m fb fe fl fm hfm]
  refine own_st (T' := s₁) (g' := (mkF m 1 #[iv fb, iv fe, iv fl, .val fm] [(.int fb)])) (fun _ k_ => XS.iloadN X0.here hx rfl (hb hby d24_0) rfl  k_) ?_
  refine own_st (T' := s₁) (g' := (mkF m 4 #[iv fb, iv fe, iv fl, .val fm] [])) (fun _ k_ => XS.ifNo X0.here hx rfl (hb hby d24_1) rfl ((if0 _ _).trans (flt (hb0 : ¬ (fb < (0 : Int32)))).1) k_) ?_
  refine own_st (T' := s₁) (g' := (mkF m 5 #[iv fb, iv fe, iv fl, .val fm] [(.int fb)])) (fun _ k_ => XS.iloadN X0.here hx rfl (hb hby d24_4) rfl  k_) ?_
  refine own_st (T' := s₁) (g' := (mkF m 6 #[iv fb, iv fe, iv fl, .val fm] [(.int fe), (.int fb)])) (fun _ k_ => XS.iloadN X0.here hx rfl (hb hby d24_5) rfl  k_) ?_
  refine own_st (T' := s₁) (g' := (mkF m 9 #[iv fb, iv fe, iv fl, .val fm] [])) (fun _ k_ => XS.icmpNo X0.here hx rfl (hb hby d24_6) rfl (flt (hb1 : ¬ (fe < fb))).2.2.1 k_) ?_
  refine own_st (T' := s₁) (g' := (mkF m 10 #[iv fb, iv fe, iv fl, .val fm] [(.int fe)])) (fun _ k_ => XS.iloadN X0.here hx rfl (hb hby d24_9) rfl  k_) ?_
  refine own_st (T' := s₁) (g' := (mkF m 11 #[iv fb, iv fe, iv fl, .val fm] [(.int fl), (.int fe)])) (fun _ k_ => XS.iloadN X0.here hx rfl (hb hby d24_10) rfl  k_) ?_
  refine own_st (T' := s₁) (g' := (mkF m 22 #[iv fb, iv fe, iv fl, .val fm] [])) (fun _ k_ => XS.icmpYes X0.here hx rfl (pc0 := 11) (pc' := 22) rfl (hb hby d24_11) rfl (flt (hb2 : ¬ (fl < fe))).2.2.2 (by decide) (by decide) k_) ?_
  refine own_st (T' := s₁) (g' := (mkF m 23 #[iv fb, iv fe, iv fl, .val fm] [(.int fb)])) (fun _ k_ => XS.iloadN X0.here hx rfl (hb hby d24_22) rfl  k_) ?_
  exact own_retI X0 hx hret hlk (hb hby d24_23) (by decide) (by decide) ⟨rfl, N0, e0⟩
theorem d23_0 : decode jdk_42_method_158_code 0 = .ok (.iload_n 0, 1) := by decide +kernel
theorem d23_1 : decode jdk_42_method_158_code 1 = .ok (.iload_n 1, 1) := by decide +kernel
theorem d23_2 : decode jdk_42_method_158_code 2 = .ok (.iload_n 2, 1) := by decide +kernel
theorem d23_3 : decode jdk_42_method_158_code 3 = .ok (.getstatic 1053, 3) := by decide +kernel
theorem d23_6 : decode jdk_42_method_158_code 6 = .ok (.invokestatic 1062, 3) := by decide +kernel
theorem d23_9 : decode jdk_42_method_158_code 9 = .ok (.pop, 1) := by decide +kernel
theorem d23_10 : decode jdk_42_method_158_code 10 = .ok (.return_, 1) := by decide +kernel
theorem pd__IIILjava_util_function_BiFunction__I : parseMethodDescriptor "(IIILjava/util/function/BiFunction;)I" = some ⟨[.int, .int, .int, (.object "java/util/function/BiFunction")], some .int⟩ := by decide +kernel
theorem ef_cbe (m : MethodId) (x0 : Int32) (x1 : Int32) (x2 : Int32) : entryFrame m #[(.int x0), (.int x1), (.int x2)] 3 = mkF m 0 #[iv x0, iv x1, iv x2] [] := by first | (simp [entryFrame, mkF, argsToLocals, Value.category]; done) | rfl
def Q_cbe (Z : State) (fb : Int32) (fe : Int32) (fl : Int32) (fm : Value) (h0 : Heap) (n0 : Nat) (v : Option Value) (h : Heap) (L : List Loc) : Prop := (v = none) ∧ (Fr n0 L) ∧ (h = h0)
set_option maxRecDepth 65536 in
set_option maxHeartbeats 40000000 in
theorem rm_cbe (l : Launch) (Z : State) (a0 : Array Value) (hw : ∀ d ∈ tables_1, d.before a0 Z = true) (ws : List Jvm.Cond) (fb : Int32) (fe : Int32) (fl : Int32) (fm : Value) (h0 : Heap) (n0 : Nat) (O0 : Old Z n0 h0) (hb0 : ¬ fb < (0 : Int32)) (hb1 : ¬ fe < fb) (hb2 : ¬ fl < fe) (SF : Sta Z Z.heap "jdk/internal/util/Preconditions" "SIOOBE_FORMATTER" "Ljava/util/function/BiFunction;" fm) (hfm : fm.isRef = true) :
    MetFree l own_m10 (head1 (Jvm.Cond.code own_m10 jdk_42_method_158_code 3 none :: ws) ({ frames := 1, cells := 0, slots := 0, locals := 15 } : Room)) (fun ar_ U => ar_ = #[(.int fb), (.int fe), (.int fl)] ∧ Z.Warmed39 U.vm ∧ U.heap = h0) (fun _ _ _ _ _ => True) (fun _ U o U' => ∃ v L, o = .returned v ∧ Q_cbe Z fb fe fl fm h0 n0 v U'.heap L ∧ FrameEnd U o U' L ({ frames := 1, cells := 0, slots := 0, locals := 15 } : Room).cells ({ frames := 1, cells := 0, slots := 0, locals := 15 } : Room).slots) := by
  refine MetFree.of_bodySF (plainFor_of_name pn_1) hisR ?_
  intro p e s m args below meth c s₁ Bd hml0 hP hK
  obtain ⟨rfl, hZ, hh⟩ := hP
  have hx := Bd.exec
  have hby := Bd.bytes
  have hml : c.maxLocals = 3 := hml0
  have hown : s.vm.findClass "java/lang/String" = some m.cls := findClass_of_methodNamed Bd.named
  have hnm := (name_of_methodNamed Bd.named Bd.method).1
  have X0 : Stand p l e ({ frames := 1, cells := 0, slots := 0, locals := 15 } : Room) s m #[(.int fb), (.int fe), (.int fl)] below meth c s₁ [] 0 0 := Stand.of_body Bd
  have e0 : s₁.heap = h0 := by rw [← hh, Bd.state]; rfl
  have N0 := Fr.nil n0
  have hret := Bd.returns
  have hlk : meth.locks = false := Bd.notSynchronized
  show own_E p e below s ({ frames := 1, cells := 0, slots := 0, locals := 15 } : Room).cells ({ frames := 1, cells := 0, slots := 0, locals := 15 } : Room).slots (Q_cbe Z fb fe fl fm h0 n0) s₁ (entryFrame m #[(.int fb), (.int fe), (.int fl)] 3)
  rw [ef_cbe m fb fe fl]
  refine own_st (T' := s₁) (g' := (mkF m 1 #[iv fb, iv fe, iv fl] [(.int fb)])) (fun _ k_ => XS.iloadN X0.here hx rfl (hb hby d23_0) rfl  k_) ?_
  refine own_st (T' := s₁) (g' := (mkF m 2 #[iv fb, iv fe, iv fl] [(.int fe), (.int fb)])) (fun _ k_ => XS.iloadN X0.here hx rfl (hb hby d23_1) rfl  k_) ?_
  refine own_st (T' := s₁) (g' := (mkF m 3 #[iv fb, iv fe, iv fl] [(.int fl), (.int fe), (.int fb)])) (fun _ k_ => XS.iloadN X0.here hx rfl (hb hby d23_2) rfl  k_) ?_
  obtain ⟨T1, X1, e1, st1⟩ := getS2 X0 hx hZ hown (host := "") (Or.inl (hw _ (List.mem_of_getElem? (i := 35) rfl))) Via.refl e0 (SF.ext O0.2) (g := (mkF m 3 #[iv fb, iv fe, iv fl] [(.int fl), (.int fe), (.int fb)])) rfl (hb hby d23_3)
  refine own_st (T' := T1) (g' := (mkF m 6 #[iv fb, iv fe, iv fl] [fm, (.int fl), (.int fe), (.int fb)])) st1 ?_
  clear st1
  obtain ⟨_, T2, L2, X2, hQ2, st2⟩ := own_callS X1 hx (y := own_m9) hown (mvT hZ (hw _ (List.mem_of_getElem? (i := 108) rfl))) (mvT hZ (hw _ (List.mem_of_getElem? (i := 109) rfl))) (mvT hZ (hw _ (List.mem_of_getElem? (i := 36) rfl))) (mvT hZ (hw _ (List.mem_of_getElem? (i := 110) rfl))) (by decide) (backOf (W := 0) (rm_cft l Z a0 hw [] fb fe fl fm h0 n0 O0 hb0 hb1 hb2 hfm) hZ (hw _ (List.mem_of_getElem? (i := 110) rfl)) (hw _ (List.mem_of_getElem? (i := 36) rfl)) (by decide) (by decide)) (g := (mkF m 6 #[iv fb, iv fe, iv fl] [fm, (.int fl), (.int fe), (.int fb)])) rfl (by rw [hml]; rfl) (argsL := [(.int fb), (.int fe), (.int fl), fm]) (rest := []) (lenOf pd__IIILjava_util_function_BiFunction__I rfl) rfl (by show 2 * 0 + _ ≤ _; exact Nat.le_of_eq rfl) (hb hby d23_6) rfl e1 (by decide) (by decide) (c' := 0) (s' := 0) rfl rfl
  obtain ⟨rfl, Nq2, eq2⟩ := hQ2
  have N2 := Fr.app N0 Nq2
  refine own_st (T' := T2) (g' := (mkF m 9 #[iv fb, iv fe, iv fl] [(.int fb)])) st2 ?_
  clear st2
  refine own_st (T' := T2) (g' := (mkF m 10 #[iv fb, iv fe, iv fl] [])) (fun _ k_ => XS.pop X2.here hx rfl (hb hby d23_9) rfl rfl k_) ?_
  exact own_retV X2 hx hret hlk (hb hby d23_10) (by decide) (by decide) ⟨rfl, N2, eq2⟩
theorem d29_0 : decode jdk_65_method_131_code 0 = .ok (.iload_n 1, 1) := by decide +kernel
theorem d29_1 : decode jdk_65_method_131_code 1 = .ok (.iload_n 0, 1) := by decide +kernel
theorem d29_2 : decode jdk_65_method_131_code 2 = .ok (.if_icmp .ge 35, 3) := by decide +kernel
theorem d29_37 : decode jdk_65_method_131_code 37 = .ok (.return_, 1) := by decide +kernel
theorem pn_3 : plainName "java/util/Arrays" = true := by first | (simp [plainName, overriddenIn]; done) | decide +kernel
theorem ef_ckl (m : MethodId) (x0 : Int32) (x1 : Int32) : entryFrame m #[(.int x0), (.int x1)] 2 = mkF m 0 #[iv x0, iv x1] [] := by first | (simp [entryFrame, mkF, argsToLocals, Value.category]; done) | rfl
def Q_ckl (Z : State) (fb : Int32) (fe : Int32) (h0 : Heap) (n0 : Nat) (v : Option Value) (h : Heap) (L : List Loc) : Prop := (v = none) ∧ (Fr n0 L) ∧ (h = h0)
set_option maxRecDepth 65536 in
set_option maxHeartbeats 40000000 in
theorem rm_ckl (l : Launch) (Z : State) (a0 : Array Value) (hw : ∀ d ∈ tables_1, d.before a0 Z = true) (ws : List Jvm.Cond) (fb : Int32) (fe : Int32) (h0 : Heap) (n0 : Nat) (O0 : Old Z n0 h0) (hb1 : ¬ fe < fb) :
    MetFree l own_m11 (head1 (Jvm.Cond.code own_m11 jdk_65_method_131_code 2 none :: ws) ({ frames := 0, cells := 0, slots := 0, locals := 0 } : Room)) (fun ar_ U => ar_ = #[(.int fb), (.int fe)] ∧ Z.Warmed39 U.vm ∧ U.heap = h0) (fun _ _ _ _ _ => True) (fun _ U o U' => ∃ v L, o = .returned v ∧ Q_ckl Z fb fe h0 n0 v U'.heap L ∧ FrameEnd U o U' L ({ frames := 0, cells := 0, slots := 0, locals := 0 } : Room).cells ({ frames := 0, cells := 0, slots := 0, locals := 0 } : Room).slots) := by
  refine MetFree.of_bodySF (plainFor_of_name pn_3) hisR ?_
  intro p e s m args below meth c s₁ Bd hml0 hP hK
  obtain ⟨rfl, hZ, hh⟩ := hP
  have hx := Bd.exec
  have hby := Bd.bytes
  have hml : c.maxLocals = 2 := hml0
  have hown : s.vm.findClass "java/util/Arrays" = some m.cls := findClass_of_methodNamed Bd.named
  have hnm := (name_of_methodNamed Bd.named Bd.method).1
  have X0 : Stand p l e ({ frames := 0, cells := 0, slots := 0, locals := 0 } : Room) s m #[(.int fb), (.int fe)] below meth c s₁ [] 0 0 := Stand.of_body Bd
  have e0 : s₁.heap = h0 := by rw [← hh, Bd.state]; rfl
  have N0 := Fr.nil n0
  have hret := Bd.returns
  have hlk : meth.locks = false := Bd.notSynchronized
  show own_E p e below s ({ frames := 0, cells := 0, slots := 0, locals := 0 } : Room).cells ({ frames := 0, cells := 0, slots := 0, locals := 0 } : Room).slots (Q_ckl Z fb fe h0 n0) s₁ (entryFrame m #[(.int fb), (.int fe)] 2)
  rw [ef_ckl m fb fe]
  refine own_st (T' := s₁) (g' := (mkF m 1 #[iv fb, iv fe] [(.int fe)])) (fun _ k_ => XS.iloadN X0.here hx rfl (hb hby d29_0) rfl  k_) ?_
  refine own_st (T' := s₁) (g' := (mkF m 2 #[iv fb, iv fe] [(.int fb), (.int fe)])) (fun _ k_ => XS.iloadN X0.here hx rfl (hb hby d29_1) rfl  k_) ?_
  refine own_st (T' := s₁) (g' := (mkF m 37 #[iv fb, iv fe] [])) (fun _ k_ => XS.icmpYes X0.here hx rfl (pc0 := 2) (pc' := 37) rfl (hb hby d29_2) rfl (flt (hb1 : ¬ (fe < fb))).2.1 (by decide) (by decide) k_) ?_
  exact own_retV X0 hx hret hlk (hb hby d29_37) (by decide) (by decide) ⟨rfl, N0, e0⟩
theorem d30_0 : decode jdk_42_method_151_code 0 = .ok (.aload_n 0, 1) := by decide +kernel
theorem d30_1 : decode jdk_42_method_151_code 1 = .ok (.invokespecial 1, 3) := by decide +kernel
theorem d30_4 : decode jdk_42_method_151_code 4 = .ok (.aload_n 0, 1) := by decide +kernel
theorem d30_5 : decode jdk_42_method_151_code 5 = .ok (.aload_n 1, 1) := by decide +kernel
theorem d30_6 : decode jdk_42_method_151_code 6 = .ok (.putfield 9, 3) := by decide +kernel
theorem d30_9 : decode jdk_42_method_151_code 9 = .ok (.aload_n 0, 1) := by decide +kernel
theorem d30_10 : decode jdk_42_method_151_code 10 = .ok (.iload_n 2, 1) := by decide +kernel
theorem d30_11 : decode jdk_42_method_151_code 11 = .ok (.putfield 15, 3) := by decide +kernel
theorem d30_14 : decode jdk_42_method_151_code 14 = .ok (.return_, 1) := by decide +kernel
theorem ef_inbb (m : MethodId) (x0 : Addr) (x1 : Addr) (x2 : Int32) : entryFrame m #[(.ref x0), (.ref x1), (.int x2)] 3 = mkF m 0 #[rv x0, rv x1, iv x2] [] := by first | (simp [entryFrame, mkF, argsToLocals, Value.category]; done) | rfl
def Q_inbb (Z : State) (a : Addr) (t : Addr) (h0 : Heap) (n0 : Nat) (v : Option Value) (h : Heap) (L : List Loc) : Prop := (v = none) ∧ (Fr n0 L) ∧ (Keep h0 h [a]) ∧ (Exa Z h a "java/lang/String") ∧ (Fld Z h a "java/lang/String" "coder" "B" (.int (0 : Int32))) ∧ (Fld Z h a "java/lang/String" "value" "[B" (.ref t))
set_option maxRecDepth 65536 in
set_option maxHeartbeats 40000000 in
theorem rm_inbb (l : Launch) (Z : State) (a0 : Array Value) (hw : ∀ d ∈ tables_1, d.before a0 Z = true) (ws : List Jvm.Cond) (a : Addr) (t : Addr) (h0 : Heap) (n0 : Nat) (O0 : Old Z n0 h0) (EA : Exa Z h0 a "java/lang/String") (FV : Fld Z h0 a "java/lang/String" "value" "[B" .null) (FC : Fld Z h0 a "java/lang/String" "coder" "B" (.int (0 : Int32))) (fa : n0 ≤ a) :
    MetFree l own_m12 (head1 (Jvm.Cond.code own_m12 jdk_42_method_151_code 3 none :: ws) ({ frames := 1, cells := 0, slots := 0, locals := 12 } : Room)) (fun ar_ U => ar_ = #[(.ref a), (.ref t), (.int (0 : Int32))] ∧ Z.Warmed39 U.vm ∧ U.heap = h0) (fun _ _ _ _ _ => True) (fun _ U o U' => ∃ v L, o = .returned v ∧ Q_inbb Z a t h0 n0 v U'.heap L ∧ FrameEnd U o U' L ({ frames := 1, cells := 0, slots := 0, locals := 12 } : Room).cells ({ frames := 1, cells := 0, slots := 0, locals := 12 } : Room).slots) := by
  refine MetFree.of_bodySF (plainFor_of_name pn_1) hisR ?_
  intro p e s m args below meth c s₁ Bd hml0 hP hK
  obtain ⟨rfl, hZ, hh⟩ := hP
  have hx := Bd.exec
  have hby := Bd.bytes
  have hml : c.maxLocals = 3 := hml0
  have hown : s.vm.findClass "java/lang/String" = some m.cls := findClass_of_methodNamed Bd.named
  have hnm := (name_of_methodNamed Bd.named Bd.method).1
  have X0 : Stand p l e ({ frames := 1, cells := 0, slots := 0, locals := 12 } : Room) s m #[(.ref a), (.ref t), (.int (0 : Int32))] below meth c s₁ [] 0 0 := Stand.of_body Bd
  have e0 : s₁.heap = h0 := by rw [← hh, Bd.state]; rfl
  have N0 := Fr.nil n0
  have hret := Bd.returns
  have hlk : meth.locks = false := Bd.notSynchronized
  show own_E p e below s ({ frames := 1, cells := 0, slots := 0, locals := 12 } : Room).cells ({ frames := 1, cells := 0, slots := 0, locals := 12 } : Room).slots (Q_inbb Z a t h0 n0) s₁ (entryFrame m #[(.ref a), (.ref t), (.int (0 : Int32))] 3)
  rw [ef_inbb m a t (0 : Int32)]
  refine own_st (T' := s₁) (g' := (mkF m 1 #[rv a, rv t, iv (0 : Int32)] [(.ref a)])) (fun _ k_ => XS.aloadN X0.here hx rfl (hb hby d30_0) rfl rfl  k_) ?_
  obtain ⟨T1, X1, e1, st1⟩ := initO X0 hx hZ hown (hw _ (List.mem_of_getElem? (i := 48) rfl)) (hw _ (List.mem_of_getElem? (i := 49) rfl)) (hw _ (List.mem_of_getElem? (i := 50) rfl)) e0 (g := (mkF m 1 #[rv a, rv t, iv (0 : Int32)] [(.ref a)])) rfl (by rw [hml]; rfl) rfl (hb hby d30_1) (by decide) (W := 0) (by show 2 * 0 + _ ≤ _; exact Nat.le_of_eq rfl) (by decide)
  refine own_st (T' := T1) (g' := (mkF m 4 #[rv a, rv t, iv (0 : Int32)] [])) st1 ?_
  clear st1
  refine own_st (T' := T1) (g' := (mkF m 5 #[rv a, rv t, iv (0 : Int32)] [(.ref a)])) (fun _ k_ => XS.aloadN X1.here hx rfl (hb hby d30_4) rfl rfl  k_) ?_
  refine own_st (T' := T1) (g' := (mkF m 6 #[rv a, rv t, iv (0 : Int32)] [(.ref t), (.ref a)])) (fun _ k_ => XS.aloadN X1.here hx rfl (hb hby d30_5) rfl rfl  k_) ?_
  obtain ⟨T2, h2, X2, e2, W2, st2⟩ := putF X1 hx hZ hown (host := "") (Or.inl (hw _ (List.mem_of_getElem? (i := 27) rfl))) Via.refl e1 FV EA (Or.inr ⟨(hw _ (List.mem_of_getElem? (i := 9) rfl)), rfl, hnm⟩) (hw _ (List.mem_of_getElem? (i := 7) rfl)) (ty := (.array .byte)) (by decide) rfl rfl (g := (mkF m 6 #[rv a, rv t, iv (0 : Int32)] [(.ref t), (.ref a)])) rfl rfl (hb hby d30_6)
  have Fw2 : Fld Z h2 a "java/lang/String" "value" "[B" (.ref t) := Fld.same W2 FV
  have N2 := Fr.snoc X2 N0 fa
  refine own_st (T' := T2) (g' := (mkF m 9 #[rv a, rv t, iv (0 : Int32)] [])) st2 ?_
  clear st2
  refine own_st (T' := T2) (g' := (mkF m 10 #[rv a, rv t, iv (0 : Int32)] [(.ref a)])) (fun _ k_ => XS.aloadN X2.here hx rfl (hb hby d30_9) rfl rfl  k_) ?_
  refine own_st (T' := T2) (g' := (mkF m 11 #[rv a, rv t, iv (0 : Int32)] [(.int (0 : Int32)), (.ref a)])) (fun _ k_ => XS.iloadN X2.here hx rfl (hb hby d30_10) rfl  k_) ?_
  have f3 : Exa Z h2 a "java/lang/String" := EA.wr W2
  have f4 : Fld Z h2 a "java/lang/String" "coder" "B" (.int (0 : Int32)) := FC.other W2 (Or.inr (slot_ne (Or.inr (hw _ (List.mem_of_getElem? (i := 10) rfl))) (Or.inr (hw _ (List.mem_of_getElem? (i := 9) rfl))) (by decide) (t := .byte) (t' := (.array .byte)) (by decide) (by decide)))
  obtain ⟨T5, h5, X5, e5, W5, st5⟩ := putFN X2 hx hZ hown (hw _ (List.mem_of_getElem? (i := 26) rfl)) Via.refl e2 f4 f3 (Or.inr ⟨(hw _ (List.mem_of_getElem? (i := 10) rfl)), rfl, hnm⟩) (hw _ (List.mem_of_getElem? (i := 7) rfl)) (ty := .byte) (v' := (.int (0 : Int32))) (by decide) rfl (by decide) (g := (mkF m 11 #[rv a, rv t, iv (0 : Int32)] [(.int (0 : Int32)), (.ref a)])) rfl rfl (hb hby d30_11)
  have Fw5 : Fld Z h5 a "java/lang/String" "coder" "B" (.int (0 : Int32)) := Fld.same W5 f4
  have N5 := Fr.snoc X5 N2 fa
  refine own_st (T' := T5) (g' := (mkF m 14 #[rv a, rv t, iv (0 : Int32)] [])) st5 ?_
  clear st5
  have f6 : Keep h0 h2 [a] := (Keep.refl h0 [a]).wr W2 (Or.inl (List.mem_of_getElem? (i := 0) rfl))
  have f7 : Keep h0 h5 [a] := f6.wr W5 (Or.inl (List.mem_of_getElem? (i := 0) rfl))
  have f8 : Exa Z h5 a "java/lang/String" := f3.wr W5
  have f9 : Fld Z h5 a "java/lang/String" "value" "[B" (.ref t) := Fw2.other W5 (Or.inr (slot_ne (Or.inr (hw _ (List.mem_of_getElem? (i := 9) rfl))) (Or.inr (hw _ (List.mem_of_getElem? (i := 10) rfl))) (by decide) (t := (.array .byte)) (t' := .byte) (by decide) (by decide)))
  exact own_retV X5 hx hret hlk (hb hby d30_14) (by decide) (by decide) (by rw [e5]; exact ⟨rfl, N5, f7, f8, Fw5, f9⟩)
def own_al : List Int32 := [65, 66, 67, 68, 69, 70, 71, 72, 73, 74, 75, 76, 77, 78, 79, 80, 81, 82, 83, 84, 85, 86, 87, 88, 89, 90, 97, 98, 99, 100, 101, 102, 103, 104, 105, 106, 107, 108, 109, 110, 111, 112, 113, 114, 115, 116, 117, 118, 119, 120, 121, 122, 48, 49, 50, 51, 52, 53, 54, 55, 56, 57, 45, 95, 46, 33, 126, 42, 39, 40, 41]
theorem own_q (x : Int64) : ∃ n, n < 256 ∧ x &&& 255 = Int64.ofNat n := by
  refine ⟨(x.toBitVec &&& 255#64).toNat, ?_, ?_⟩
  · rw [BitVec.toNat_and]; exact Nat.lt_of_le_of_lt Nat.and_le_right (by decide)
  · apply Int64.toBitVec_inj.mp
    rw [Int64.toBitVec_and]
    show _ = BitVec.ofNat 64 _
    rw [BitVec.ofNat_toNat]; simp
theorem own_q71 : ∀ n : Fin 256, (Int64.ofNat n.1 - Int64.ofNat n.1 / 71 * 71).toInt32 = Int32.ofNat (n.1 % 71) := by decide +kernel
theorem own_ix (x : Int64) : ∃ i, i < 71 ∧ (((x &&& (255 : Int64)) - ((x &&& (255 : Int64)) / (71 : Int64)) * (71 : Int64)).toInt32) = Int32.ofNat i := by
  obtain ⟨n, h, e⟩ := own_q x
  exact ⟨n % 71, Nat.mod_lt _ (by decide), by rw [e]; exact own_q71 ⟨n, h⟩⟩
theorem own_alR : ∀ c ∈ own_al, ¬ c < 0 ∧ ¬ (255 : Int32) < c := by decide
theorem own_alN : ∀ c ∈ own_al, ¬ (c.toInt8.toInt32) = (58 : Int32).toInt8.toInt32 := by decide
theorem own_alM {i : Nat} (h : i < 71) : own_al.getD i 0 ∈ own_al := by
  have hl : i < own_al.length := h
  rw [List.getD_eq_getElem?_getD, List.getElem?_eq_getElem hl]; exact List.getElem_mem hl
theorem own_nch {c : Int32} (h : ¬ c < 0 ∧ ¬ (255 : Int32) < c) : nar .char c = c := by
  obtain ⟨h1, h2⟩ := h
  have k := c_i2c c
  have z0 : (0 : Int32).toInt = 0 := rfl
  have z1 : (255 : Int32).toInt = 255 := rfl
  rw [Int32.lt_iff_toInt_lt] at h1 h2
  show c.toUInt32.toUInt16.toUInt32.toInt32 = c
  exact own_eqI (by omega)
theorem own_c58 : nar .char (58 : Int32) = 58 := by decide
theorem own_neT {Z : State} {h : Heap} {a b : Addr} {k k' : ClassId} {ty ty' : FieldType} {z z' : Int32} {vs vs' : List Value} {dv dv' : Value} (F : Arv Z h a k ty z vs dv) (G : Arv Z h b k' ty' z' vs' dv') (q : ty ≠ ty') : a ≠ b := by
  rintro rfl
  obtain ⟨c1, ⟨e1, ⟨-, k1, h1, m1, q1⟩, -⟩, -⟩ := F
  obtain ⟨c2, ⟨e2, ⟨-, k2, h2, m2, q2⟩, -⟩, -⟩ := G
  cases e1.symm.trans e2
  cases h1.symm.trans h2
  rw [q1] at q2
  cases q2
  exact q rfl
theorem d1_0 : decode method_2_code 0 = .ok (.ldc 7, 2) := by decide +kernel
theorem d1_2 : decode method_2_code 2 = .ok (.astore_n 3, 1) := by decide +kernel
theorem d1_3 : decode method_2_code 3 = .ok (.aload_n 3, 1) := by decide +kernel
theorem d1_4 : decode method_2_code 4 = .ok (.lload_n 0, 1) := by decide +kernel
theorem d1_5 : decode method_2_code 5 = .ok (.bipush 8, 2) := by decide +kernel
theorem d1_7 : decode method_2_code 7 = .ok (.iload_n 2, 1) := by decide +kernel
theorem d1_8 : decode method_2_code 8 = .ok (.imul, 1) := by decide +kernel
theorem d1_9 : decode method_2_code 9 = .ok (.lushr, 1) := by decide +kernel
theorem d1_10 : decode method_2_code 10 = .ok (.ldc2_w 9, 3) := by decide +kernel
theorem d1_13 : decode method_2_code 13 = .ok (.land, 1) := by decide +kernel
theorem d1_14 : decode method_2_code 14 = .ok (.ldc2_w 11, 3) := by decide +kernel
theorem d1_17 : decode method_2_code 17 = .ok (.lrem, 1) := by decide +kernel
theorem d1_18 : decode method_2_code 18 = .ok (.l2i, 1) := by decide +kernel
theorem d1_19 : decode method_2_code 19 = .ok (.invokevirtual 13, 3) := by decide +kernel
theorem d1_22 : decode method_2_code 22 = .ok (.ireturn, 1) := by decide +kernel
theorem pd__I_C : parseMethodDescriptor "(I)C" = some ⟨[.int], some .char⟩ := by decide +kernel
theorem pn_4 : plainName "com/example/sheafgate/sheafgate/store/SetSpecsLastPartPinLaw" = true := by first | (simp [plainName, overriddenIn]; done) | decide +kernel
theorem ef_pick1 (m : MethodId) (x0 : Int64) (x1 : Int32) : entryFrame m #[(.long x0), (.int x1)] 4 = mkF m 0 #[.val (.long x0), .second, iv x1, .unset] [] := by first | (simp [entryFrame, mkF, argsToLocals, Value.category]; done) | rfl
def Q_pick1 (Z : State) (pp : Int64) (jj : Int32) (cz : Int32) (fm : Value) (h0 : Heap) (n0 : Nat) (v : Option Value) (h : Heap) (L : List Loc) (vm : Vm) : Prop := ∃ (cc : Int32) (al : Addr) (at_ : Addr) (ka : ClassId), (v = some (.int cc)) ∧ (Fr n0 L) ∧ (Keep h0 h []) ∧ (Exa Z h al "java/lang/String") ∧ (Fld Z h al "java/lang/String" "coder" "B" (.int (0 : Int32))) ∧ (Fld Z h al "java/lang/String" "value" "[B" (.ref at_)) ∧ (Arv Z h at_ ka .byte (Int32.ofNat own_al.length) ((own_al.map StrChars.lo8).map Value.int) (.int (0 : Int32))) ∧ (¬ cc < 0 ∧ ¬ (255 : Int32) < cc) ∧ (¬ (cc.toInt8.toInt32) = ((58 : Int32).toInt8.toInt32)) ∧ (Lit (Z.setVm vm) "com/example/sheafgate/sheafgate/store/SetSpecsLastPartPinLaw" 7 al)
set_option maxRecDepth 65536 in
set_option maxHeartbeats 40000000 in
theorem rm_pick1 (l : Launch) (Z : State) (a0 : Array Value) (hw : ∀ d ∈ tables_1, d.before a0 Z = true) (ws : List Jvm.Cond) (pp : Int64) (jj : Int32) (cz : Int32) (fm : Value) (h0 : Heap) (n0 : Nat) (O0 : Old Z n0 h0) (SC : Sta Z Z.heap "java/lang/String" "COMPACT_STRINGS" "Z" (.int cz)) (hcz : ¬ cz = (0 : Int32)) (SF : Sta Z Z.heap "jdk/internal/util/Preconditions" "SIOOBE_FORMATTER" "Ljava/util/function/BiFunction;" fm) (hfm : fm.isRef = true) :
    MetFree l own_m14 (head1 (Jvm.Cond.code own_m14 method_2_code 4 (some .char) :: ws) ({ frames := 4, cells := 2, slots := 288, locals := 53 } : Room)) (fun ar_ U => ar_ = #[(.long pp), (.int jj)] ∧ Z.Warmed39 U.vm ∧ U.heap = h0 ∧ CHv Z consts_1 U.vm h0 ∧ ∀ x ∈ ([] : List Addr), Safe Z consts_1 U.vm h0 x) (fun _ _ _ _ _ => True) (fun _ U o U' => ∃ v L, o = .returned v ∧ Q_pick1 Z pp jj cz fm h0 n0 v U'.heap L U'.vm ∧ CHr Z consts_1 U.vm U.heap U'.vm U'.heap ∧ ReturnedEndW U o U' L ({ frames := 4, cells := 2, slots := 288, locals := 53 } : Room).cells ({ frames := 4, cells := 2, slots := 288, locals := 53 } : Room).slots) := by
  refine MetFree.of_bodySF (plainFor_of_name pn_4) hisR ?_
  intro p e s m args below meth c s₁ Bd hml0 hP hK
  obtain ⟨rfl, hZ, hh, CH0, SF0⟩ := hP
  have hx := Bd.exec
  have hby := Bd.bytes
  have hml : c.maxLocals = 4 := hml0
  have hown : s.vm.findClass "com/example/sheafgate/sheafgate/store/SetSpecsLastPartPinLaw" = some m.cls := findClass_of_methodNamed Bd.named
  have hnm := (name_of_methodNamed Bd.named Bd.method).1
  have X0 : Stand p l e ({ frames := 4, cells := 2, slots := 288, locals := 53 } : Room) (s.setVm s.vm) m #[(.long pp), (.int jj)] below meth c s₁ [] 0 0 := Stand.of_body Bd
  have e0 : s₁.heap = h0 := by rw [← hh, Bd.state]; rfl
  have N0 := Fr.nil n0
  have hret := Bd.returns
  have hlk : meth.locks = false := Bd.notSynchronized
  have hEL := own_EW hw
  have hZs := hZ
  have howns := hown
  have hS0 : s.Since s.vm s.heap.size := (State.WarmedH.refl s).since _
  have hk0 : s.heap.size ≤ h0.size := Nat.le_of_eq (by rw [hh])
  have CR0 := CHr.refl CH0
  refine own_W0X hh ?_
  show own_WX p e below s ({ frames := 4, cells := 2, slots := 288, locals := 53 } : Room).cells ({ frames := 4, cells := 2, slots := 288, locals := 53 } : Room).slots Z consts_1 h0 (Q_pick1 Z pp jj cz fm h0 n0) s₁ (entryFrame m #[(.long pp), (.int jj)] 4)
  rw [ef_pick1 m pp jj]
  obtain ⟨a1, T1, h1, k1, b1, kb1, X1, e1, E1, hS1, hk1, hZ1, hown1, A1, C1, V1, R1, la1, lb1, ch1, Lt1, nl1, st1⟩ := ldcCH X0 hx hZ hown (hw _ (List.mem_of_getElem? (i := 5) rfl)) (own_wS hw) e0 hS0 hk0 hEL (List.mem_of_getElem? (i := 0) rfl) CR0.1 (vs := [(.int (65 : Int32)), (.int (66 : Int32)), (.int (67 : Int32)), (.int (68 : Int32)), (.int (69 : Int32)), (.int (70 : Int32)), (.int (71 : Int32)), (.int (72 : Int32)), (.int (73 : Int32)), (.int (74 : Int32)), (.int (75 : Int32)), (.int (76 : Int32)), (.int (77 : Int32)), (.int (78 : Int32)), (.int (79 : Int32)), (.int (80 : Int32)), (.int (81 : Int32)), (.int (82 : Int32)), (.int (83 : Int32)), (.int (84 : Int32)), (.int (85 : Int32)), (.int (86 : Int32)), (.int (87 : Int32)), (.int (88 : Int32)), (.int (89 : Int32)), (.int (90 : Int32)), (.int (97 : Int32)), (.int (98 : Int32)), (.int (99 : Int32)), (.int (100 : Int32)), (.int (101 : Int32)), (.int (102 : Int32)), (.int (103 : Int32)), (.int (104 : Int32)), (.int (105 : Int32)), (.int (106 : Int32)), (.int (107 : Int32)), (.int (108 : Int32)), (.int (109 : Int32)), (.int (110 : Int32)), (.int (111 : Int32)), (.int (112 : Int32)), (.int (113 : Int32)), (.int (114 : Int32)), (.int (115 : Int32)), (.int (116 : Int32)), (.int (117 : Int32)), (.int (118 : Int32)), (.int (119 : Int32)), (.int (120 : Int32)), (.int (121 : Int32)), (.int (122 : Int32)), (.int (48 : Int32)), (.int (49 : Int32)), (.int (50 : Int32)), (.int (51 : Int32)), (.int (52 : Int32)), (.int (53 : Int32)), (.int (54 : Int32)), (.int (55 : Int32)), (.int (56 : Int32)), (.int (57 : Int32)), (.int (45 : Int32)), (.int (95 : Int32)), (.int (46 : Int32)), (.int (33 : Int32)), (.int (126 : Int32)), (.int (42 : Int32)), (.int (39 : Int32)), (.int (40 : Int32)), (.int (41 : Int32))]) (z := (71 : Int32)) ⟨by decide, by decide⟩ (by decide) (by decide) (g := (mkF m 0 #[.val (.long pp), .second, iv jj, .unset] [])) rfl (hb hby d1_0) (n := 284) (by decide) (by decide) (by decide) (by decide)
  have CR2 : CHr Z consts_1 s.vm h0 T1.vm h1 := CR0.trans ch1
  refine own_stWX (T' := T1) (g' := (mkF m 2 #[.val (.long pp), .second, iv jj, .unset] [(.ref a1)])) st1 ?_
  clear st1
  refine own_stWX (T' := T1) (g' := (mkF m 3 #[.val (.long pp), .second, iv jj, rv a1] [])) (fun _ k_ => XS.astoreN X1.here hx rfl (hb hby d1_2) rfl rfl (l' := #[.val (.long pp), .second, iv jj, rv a1]) rfl k_) ?_
  refine own_stWX (T' := T1) (g' := (mkF m 4 #[.val (.long pp), .second, iv jj, rv a1] [(.ref a1)])) (fun _ k_ => XS.aloadN X1.here hx rfl (hb hby d1_3) rfl rfl  k_) ?_
  refine own_stWX (T' := T1) (g' := (mkF m 5 #[.val (.long pp), .second, iv jj, rv a1] [(.long pp), (.ref a1)])) (fun _ k_ => XS.lloadN X1.here hx rfl (hb hby d1_4) rfl  k_) ?_
  refine own_stWX (T' := T1) (g' := (mkF m 7 #[.val (.long pp), .second, iv jj, rv a1] [(.int (8 : Int32)), (.long pp), (.ref a1)])) (fun _ k_ => XS.bipush X1.here hx rfl (hb hby d1_5) k_) ?_
  refine own_stWX (T' := T1) (g' := (mkF m 8 #[.val (.long pp), .second, iv jj, rv a1] [(.int jj), (.int (8 : Int32)), (.long pp), (.ref a1)])) (fun _ k_ => XS.iloadN X1.here hx rfl (hb hby d1_7) rfl  k_) ?_
  refine own_stWX (T' := T1) (g' := (mkF m 9 #[.val (.long pp), .second, iv jj, rv a1] [(.int ((8 : Int32) * jj)), (.long pp), (.ref a1)])) (fun _ k_ => XS.imul X1.here hx rfl (hb hby d1_8) rfl k_) ?_
  refine own_stWX (T' := T1) (g' := (mkF m 10 #[.val (.long pp), .second, iv jj, rv a1] [(.long ((pp.toUInt64 >>> (((8 : Int32) * jj) &&& 0x3f).toInt64.toUInt64).toInt64)), (.ref a1)])) (fun _ k_ => XS.lushr X1.here hx rfl (hb hby d1_9) rfl k_) ?_
  refine own_stWX (T' := T1) (g' := (mkF m 13 #[.val (.long pp), .second, iv jj, rv a1] [(.long (255 : Int64)), (.long ((pp.toUInt64 >>> (((8 : Int32) * jj) &&& 0x3f).toInt64.toUInt64).toInt64)), (.ref a1)])) (X1.ldc2Long hx hown1 (mvT hZ1 (hw _ (List.mem_of_getElem? (i := 13) rfl))) (g := (mkF m 10 #[.val (.long pp), .second, iv jj, rv a1] [(.long ((pp.toUInt64 >>> (((8 : Int32) * jj) &&& 0x3f).toInt64.toUInt64).toInt64)), (.ref a1)])) rfl (hb hby d1_10)) ?_
  refine own_stWX (T' := T1) (g' := (mkF m 14 #[.val (.long pp), .second, iv jj, rv a1] [(.long (((pp.toUInt64 >>> (((8 : Int32) * jj) &&& 0x3f).toInt64.toUInt64).toInt64) &&& (255 : Int64))), (.ref a1)])) (fun _ k_ => XS.land X1.here hx rfl (hb hby d1_13) rfl k_) ?_
  refine own_stWX (T' := T1) (g' := (mkF m 17 #[.val (.long pp), .second, iv jj, rv a1] [(.long (71 : Int64)), (.long (((pp.toUInt64 >>> (((8 : Int32) * jj) &&& 0x3f).toInt64.toUInt64).toInt64) &&& (255 : Int64))), (.ref a1)])) (X1.ldc2Long hx hown1 (mvT hZ1 (hw _ (List.mem_of_getElem? (i := 14) rfl))) (g := (mkF m 14 #[.val (.long pp), .second, iv jj, rv a1] [(.long (((pp.toUInt64 >>> (((8 : Int32) * jj) &&& 0x3f).toInt64.toUInt64).toInt64) &&& (255 : Int64))), (.ref a1)])) rfl (hb hby d1_14)) ?_
  refine own_stWX (T' := T1) (g' := (mkF m 18 #[.val (.long pp), .second, iv jj, rv a1] [(.long ((((pp.toUInt64 >>> (((8 : Int32) * jj) &&& 0x3f).toInt64.toUInt64).toInt64) &&& (255 : Int64)) - ((((pp.toUInt64 >>> (((8 : Int32) * jj) &&& 0x3f).toInt64.toUInt64).toInt64) &&& (255 : Int64)) / (71 : Int64)) * (71 : Int64))), (.ref a1)])) (fun _ k_ => XS.lrem X1.here hx rfl (hb hby d1_17) rfl (by decide) k_) ?_
  refine own_stWX (T' := T1) (g' := (mkF m 19 #[.val (.long pp), .second, iv jj, rv a1] [(.int (((((pp.toUInt64 >>> (((8 : Int32) * jj) &&& 0x3f).toInt64.toUInt64).toInt64) &&& (255 : Int64)) - ((((pp.toUInt64 >>> (((8 : Int32) * jj) &&& 0x3f).toInt64.toUInt64).toInt64) &&& (255 : Int64)) / (71 : Int64)) * (71 : Int64)).toInt32)), (.ref a1)])) (fun _ k_ => XS.l2i X1.here hx rfl (hb hby d1_18) rfl k_) ?_
  obtain ⟨i_, hi_, hj_⟩ := own_ix ((pp.toUInt64 >>> (((8 : Int32) * jj) &&& 0x3f).toInt64.toUInt64).toInt64)
  have f3 : Old Z n0 h1 := O0.ext E1
  obtain ⟨cq4, kq4, q4a, q4b, q4c⟩ := isOf hZ1 e1 A1
  obtain ⟨v4, T4, L4, X4, ⟨hv4, rfl, eq4⟩, st4⟩ := own_callV X1 hx (y := own_m13) (z := own_m13) hown1 (mvT hZ1 (hw _ (List.mem_of_getElem? (i := 15) rfl))) (mvT hZ1 (hw _ (List.mem_of_getElem? (i := 16) rfl))) (notFace_of_selects (args := #[]) (mvT hZ1 (hw _ (List.mem_of_getElem? (i := 18) rfl)))) (mvT hZ1 (hw _ (List.mem_of_getElem? (i := 18) rfl))) (mvT hZ1 (hw _ (List.mem_of_getElem? (i := 17) rfl))) (by decide) (rm := ({ frames := 0, cells := 0, slots := 0, locals := 0 } : Room)) (Q := fun v h' L => v = some (.int (List.getD own_al i_ 0)) ∧ L = [] ∧ h' = h1) (StrChars.Road.chN (W := 0) hZ1 (own_wCh hw) (kI := 4) (hw _ (List.mem_of_getElem? (i := 7) rfl)) A1 V1 C1 R1 (StrChars.Road.codOf (cs := own_al) (n := List.length own_al) rfl (fun c hc => (own_alR c hc).2)) (own_up _ own_alR) (SC.ext f3.2) hcz (SF.ext f3.2) hfm (by decide) (i := i_) hi_ (j := (((((pp.toUInt64 >>> (((8 : Int32) * jj) &&& 0x3f).toInt64.toUInt64).toInt64) &&& (255 : Int64)) - ((((pp.toUInt64 >>> (((8 : Int32) * jj) &&& 0x3f).toInt64.toUInt64).toInt64) &&& (255 : Int64)) / (71 : Int64)) * (71 : Int64)).toInt32)) hj_ (by decide) (by decide)) q4a q4c (g := (mkF m 19 #[.val (.long pp), .second, iv jj, rv a1] [(.int (((((pp.toUInt64 >>> (((8 : Int32) * jj) &&& 0x3f).toInt64.toUInt64).toInt64) &&& (255 : Int64)) - ((((pp.toUInt64 >>> (((8 : Int32) * jj) &&& 0x3f).toInt64.toUInt64).toInt64) &&& (255 : Int64)) / (71 : Int64)) * (71 : Int64)).toInt32)), (.ref a1)])) rfl (by rw [hml]; rfl) (argsL := [(.int (((((pp.toUInt64 >>> (((8 : Int32) * jj) &&& 0x3f).toInt64.toUInt64).toInt64) &&& (255 : Int64)) - ((((pp.toUInt64 >>> (((8 : Int32) * jj) &&& 0x3f).toInt64.toUInt64).toInt64) &&& (255 : Int64)) / (71 : Int64)) * (71 : Int64)).toInt32))]) (rest := []) (lenOf pd__I_C rfl) rfl (by show 2 * 0 + _ ≤ _; exact Nat.le_of_eq rfl) (hb hby d1_19) rfl e1 (by decide) (by decide) (c' := 2) (s' := 288) rfl rfl
  clear q4a q4b q4c kq4 cq4
  have N4 := Fr.app N0 (Fr.nil n0)
  obtain rfl : v4 = some (.int (List.getD own_al i_ 0)) := hv4.trans (congrArg (fun z => some (Value.int z)) rfl)
  refine own_stWX (T' := T4) (g' := (mkF m 22 #[.val (.long pp), .second, iv jj, rv a1] [(.int (List.getD own_al i_ 0))])) st4 ?_
  clear st4
  have f5 : Keep h0 h1 [] := (Keep.refl h0 []).ext E1
  exact own_retNWX X4 hZ1 hS1 (by rw [eq4]; exact hk1) hEL (by rw [eq4]; exact CR2) hx (t := .char) hret (by simp) hlk (hb hby d1_22) (by decide) (by decide) (by rw [eq4]; exact ⟨_, a1, b1, kb1, congrArg (fun z => some (Value.int z)) (own_nch (own_alR _ (own_alM hi_))), N4, f5, A1, C1, V1, R1, own_alR _ (own_alM hi_), own_alN _ (own_alM hi_), Lit.stays (s := Z) (vm0 := T1.vm) Lt1 (own_wx X4.warmed.wide)⟩)
theorem ef_pick2 (m : MethodId) (x0 : Int64) (x1 : Int32) : entryFrame m #[(.long x0), (.int x1)] 4 = mkF m 0 #[.val (.long x0), .second, iv x1, .unset] [] := by first | (simp [entryFrame, mkF, argsToLocals, Value.category]; done) | rfl
def Q_pick2 (Z : State) (pp : Int64) (jj : Int32) (x : Addr) (t : Addr) (kt : ClassId) (cz : Int32) (fm : Value) (h0 : Heap) (n0 : Nat) (v : Option Value) (h : Heap) (L : List Loc) (vm : Vm) : Prop := ∃ (cc : Int32), (v = some (.int cc)) ∧ (Fr n0 L) ∧ (Keep h0 h []) ∧ (¬ cc < 0 ∧ ¬ (255 : Int32) < cc) ∧ (¬ (cc.toInt8.toInt32) = ((58 : Int32).toInt8.toInt32)) ∧ (Lit (Z.setVm vm) "com/example/sheafgate/sheafgate/store/SetSpecsLastPartPinLaw" 7 x)
set_option maxRecDepth 65536 in
set_option maxHeartbeats 40000000 in
theorem rm_pick2 (l : Launch) (Z : State) (a0 : Array Value) (hw : ∀ d ∈ tables_1, d.before a0 Z = true) (ws : List Jvm.Cond) (pp : Int64) (jj : Int32) (x : Addr) (t : Addr) (kt : ClassId) (cz : Int32) (fm : Value) (h0 : Heap) (n0 : Nat) (O0 : Old Z n0 h0) (E_x : Exa Z h0 x "java/lang/String") (V_x : Fld Z h0 x "java/lang/String" "value" "[B" (.ref t)) (C_x : Fld Z h0 x "java/lang/String" "coder" "B" (.int (0 : Int32))) (A_x : Arv Z h0 t kt .byte (Int32.ofNat own_al.length) ((own_al.map StrChars.lo8).map Value.int) (.int (0 : Int32))) (SC : Sta Z Z.heap "java/lang/String" "COMPACT_STRINGS" "Z" (.int cz)) (hcz : ¬ cz = (0 : Int32)) (SF : Sta Z Z.heap "jdk/internal/util/Preconditions" "SIOOBE_FORMATTER" "Ljava/util/function/BiFunction;" fm) (hfm : fm.isRef = true) :
    MetFree l own_m14 (head1 (Jvm.Cond.code own_m14 method_2_code 4 (some .char) :: ws) ({ frames := 4, cells := 0, slots := 0, locals := 53 } : Room)) (fun ar_ U => ar_ = #[(.long pp), (.int jj)] ∧ Z.Warmed39 U.vm ∧ U.heap = h0 ∧ CHv Z consts_1 U.vm h0 ∧ (∀ x ∈ ([] : List Addr), Safe Z consts_1 U.vm h0 x) ∧ Lit (Z.setVm U.vm) "com/example/sheafgate/sheafgate/store/SetSpecsLastPartPinLaw" 7 x) (fun _ _ _ _ _ => True) (fun _ U o U' => ∃ v L, o = .returned v ∧ Q_pick2 Z pp jj x t kt cz fm h0 n0 v U'.heap L U'.vm ∧ CHr Z consts_1 U.vm U.heap U'.vm U'.heap ∧ ReturnedEndW U o U' L ({ frames := 4, cells := 0, slots := 0, locals := 53 } : Room).cells ({ frames := 4, cells := 0, slots := 0, locals := 53 } : Room).slots) := by
  refine MetFree.of_bodySF (plainFor_of_name pn_4) hisR ?_
  intro p e s m args below meth c s₁ Bd hml0 hP hK
  obtain ⟨rfl, hZ, hh, CH0, SF0, LT0⟩ := hP
  have hx := Bd.exec
  have hby := Bd.bytes
  have hml : c.maxLocals = 4 := hml0
  have hown : s.vm.findClass "com/example/sheafgate/sheafgate/store/SetSpecsLastPartPinLaw" = some m.cls := findClass_of_methodNamed Bd.named
  have hnm := (name_of_methodNamed Bd.named Bd.method).1
  have X0 : Stand p l e ({ frames := 4, cells := 0, slots := 0, locals := 53 } : Room) (s.setVm s.vm) m #[(.long pp), (.int jj)] below meth c s₁ [] 0 0 := Stand.of_body Bd
  have e0 : s₁.heap = h0 := by rw [← hh, Bd.state]; rfl
  have N0 := Fr.nil n0
  have hret := Bd.returns
  have hlk : meth.locks = false := Bd.notSynchronized
  have hEL := own_EW hw
  have hZs := hZ
  have howns := hown
  have hS0 : s.Since s.vm s.heap.size := (State.WarmedH.refl s).since _
  have hk0 : s.heap.size ≤ h0.size := Nat.le_of_eq (by rw [hh])
  have CR0 := CHr.refl CH0
  refine own_W0X hh ?_
  show own_WX p e below s ({ frames := 4, cells := 0, slots := 0, locals := 53 } : Room).cells ({ frames := 4, cells := 0, slots := 0, locals := 53 } : Room).slots Z consts_1 h0 (Q_pick2 Z pp jj x t kt cz fm h0 n0) s₁ (entryFrame m #[(.long pp), (.int jj)] 4)
  rw [ef_pick2 m pp jj]
  refine own_stWX (T' := s₁) (g' := (mkF m 2 #[.val (.long pp), .second, iv jj, .unset] [(.ref x)])) (ldcAgain X0 hx hZ hown (hw _ (List.mem_of_getElem? (i := 5) rfl)) LT0 (g := (mkF m 0 #[.val (.long pp), .second, iv jj, .unset] [])) rfl (hb hby d1_0)) ?_
  refine own_stWX (T' := s₁) (g' := (mkF m 3 #[.val (.long pp), .second, iv jj, rv x] [])) (fun _ k_ => XS.astoreN X0.here hx rfl (hb hby d1_2) rfl rfl (l' := #[.val (.long pp), .second, iv jj, rv x]) rfl k_) ?_
  refine own_stWX (T' := s₁) (g' := (mkF m 4 #[.val (.long pp), .second, iv jj, rv x] [(.ref x)])) (fun _ k_ => XS.aloadN X0.here hx rfl (hb hby d1_3) rfl rfl  k_) ?_
  refine own_stWX (T' := s₁) (g' := (mkF m 5 #[.val (.long pp), .second, iv jj, rv x] [(.long pp), (.ref x)])) (fun _ k_ => XS.lloadN X0.here hx rfl (hb hby d1_4) rfl  k_) ?_
  refine own_stWX (T' := s₁) (g' := (mkF m 7 #[.val (.long pp), .second, iv jj, rv x] [(.int (8 : Int32)), (.long pp), (.ref x)])) (fun _ k_ => XS.bipush X0.here hx rfl (hb hby d1_5) k_) ?_
  refine own_stWX (T' := s₁) (g' := (mkF m 8 #[.val (.long pp), .second, iv jj, rv x] [(.int jj), (.int (8 : Int32)), (.long pp), (.ref x)])) (fun _ k_ => XS.iloadN X0.here hx rfl (hb hby d1_7) rfl  k_) ?_
  refine own_stWX (T' := s₁) (g' := (mkF m 9 #[.val (.long pp), .second, iv jj, rv x] [(.int ((8 : Int32) * jj)), (.long pp), (.ref x)])) (fun _ k_ => XS.imul X0.here hx rfl (hb hby d1_8) rfl k_) ?_
  refine own_stWX (T' := s₁) (g' := (mkF m 10 #[.val (.long pp), .second, iv jj, rv x] [(.long ((pp.toUInt64 >>> (((8 : Int32) * jj) &&& 0x3f).toInt64.toUInt64).toInt64)), (.ref x)])) (fun _ k_ => XS.lushr X0.here hx rfl (hb hby d1_9) rfl k_) ?_
  refine own_stWX (T' := s₁) (g' := (mkF m 13 #[.val (.long pp), .second, iv jj, rv x] [(.long (255 : Int64)), (.long ((pp.toUInt64 >>> (((8 : Int32) * jj) &&& 0x3f).toInt64.toUInt64).toInt64)), (.ref x)])) (X0.ldc2Long hx hown (mvT hZ (hw _ (List.mem_of_getElem? (i := 13) rfl))) (g := (mkF m 10 #[.val (.long pp), .second, iv jj, rv x] [(.long ((pp.toUInt64 >>> (((8 : Int32) * jj) &&& 0x3f).toInt64.toUInt64).toInt64)), (.ref x)])) rfl (hb hby d1_10)) ?_
  refine own_stWX (T' := s₁) (g' := (mkF m 14 #[.val (.long pp), .second, iv jj, rv x] [(.long (((pp.toUInt64 >>> (((8 : Int32) * jj) &&& 0x3f).toInt64.toUInt64).toInt64) &&& (255 : Int64))), (.ref x)])) (fun _ k_ => XS.land X0.here hx rfl (hb hby d1_13) rfl k_) ?_
  refine own_stWX (T' := s₁) (g' := (mkF m 17 #[.val (.long pp), .second, iv jj, rv x] [(.long (71 : Int64)), (.long (((pp.toUInt64 >>> (((8 : Int32) * jj) &&& 0x3f).toInt64.toUInt64).toInt64) &&& (255 : Int64))), (.ref x)])) (X0.ldc2Long hx hown (mvT hZ (hw _ (List.mem_of_getElem? (i := 14) rfl))) (g := (mkF m 14 #[.val (.long pp), .second, iv jj, rv x] [(.long (((pp.toUInt64 >>> (((8 : Int32) * jj) &&& 0x3f).toInt64.toUInt64).toInt64) &&& (255 : Int64))), (.ref x)])) rfl (hb hby d1_14)) ?_
  refine own_stWX (T' := s₁) (g' := (mkF m 18 #[.val (.long pp), .second, iv jj, rv x] [(.long ((((pp.toUInt64 >>> (((8 : Int32) * jj) &&& 0x3f).toInt64.toUInt64).toInt64) &&& (255 : Int64)) - ((((pp.toUInt64 >>> (((8 : Int32) * jj) &&& 0x3f).toInt64.toUInt64).toInt64) &&& (255 : Int64)) / (71 : Int64)) * (71 : Int64))), (.ref x)])) (fun _ k_ => XS.lrem X0.here hx rfl (hb hby d1_17) rfl (by decide) k_) ?_
  refine own_stWX (T' := s₁) (g' := (mkF m 19 #[.val (.long pp), .second, iv jj, rv x] [(.int (((((pp.toUInt64 >>> (((8 : Int32) * jj) &&& 0x3f).toInt64.toUInt64).toInt64) &&& (255 : Int64)) - ((((pp.toUInt64 >>> (((8 : Int32) * jj) &&& 0x3f).toInt64.toUInt64).toInt64) &&& (255 : Int64)) / (71 : Int64)) * (71 : Int64)).toInt32)), (.ref x)])) (fun _ k_ => XS.l2i X0.here hx rfl (hb hby d1_18) rfl k_) ?_
  obtain ⟨i_, hi_, hj_⟩ := own_ix ((pp.toUInt64 >>> (((8 : Int32) * jj) &&& 0x3f).toInt64.toUInt64).toInt64)
  obtain ⟨cq1, kq1, q1a, q1b, q1c⟩ := isOf hZ e0 E_x
  obtain ⟨v1, T1, L1, X1, ⟨hv1, rfl, eq1⟩, st1⟩ := own_callV X0 hx (y := own_m13) (z := own_m13) hown (mvT hZ (hw _ (List.mem_of_getElem? (i := 15) rfl))) (mvT hZ (hw _ (List.mem_of_getElem? (i := 16) rfl))) (notFace_of_selects (args := #[]) (mvT hZ (hw _ (List.mem_of_getElem? (i := 18) rfl)))) (mvT hZ (hw _ (List.mem_of_getElem? (i := 18) rfl))) (mvT hZ (hw _ (List.mem_of_getElem? (i := 17) rfl))) (by decide) (rm := ({ frames := 0, cells := 0, slots := 0, locals := 0 } : Room)) (Q := fun v h' L => v = some (.int (List.getD own_al i_ 0)) ∧ L = [] ∧ h' = h0) (StrChars.Road.chN (W := 0) hZ (own_wCh hw) (kI := 4) (hw _ (List.mem_of_getElem? (i := 7) rfl)) E_x V_x C_x A_x (StrChars.Road.codOf (cs := own_al) (n := List.length own_al) rfl (fun c hc => (own_alR c hc).2)) (own_up _ own_alR) (SC.ext O0.2) hcz (SF.ext O0.2) hfm (by decide) (i := i_) hi_ (j := (((((pp.toUInt64 >>> (((8 : Int32) * jj) &&& 0x3f).toInt64.toUInt64).toInt64) &&& (255 : Int64)) - ((((pp.toUInt64 >>> (((8 : Int32) * jj) &&& 0x3f).toInt64.toUInt64).toInt64) &&& (255 : Int64)) / (71 : Int64)) * (71 : Int64)).toInt32)) hj_ (by decide) (by decide)) q1a q1c (g := (mkF m 19 #[.val (.long pp), .second, iv jj, rv x] [(.int (((((pp.toUInt64 >>> (((8 : Int32) * jj) &&& 0x3f).toInt64.toUInt64).toInt64) &&& (255 : Int64)) - ((((pp.toUInt64 >>> (((8 : Int32) * jj) &&& 0x3f).toInt64.toUInt64).toInt64) &&& (255 : Int64)) / (71 : Int64)) * (71 : Int64)).toInt32)), (.ref x)])) rfl (by rw [hml]; rfl) (argsL := [(.int (((((pp.toUInt64 >>> (((8 : Int32) * jj) &&& 0x3f).toInt64.toUInt64).toInt64) &&& (255 : Int64)) - ((((pp.toUInt64 >>> (((8 : Int32) * jj) &&& 0x3f).toInt64.toUInt64).toInt64) &&& (255 : Int64)) / (71 : Int64)) * (71 : Int64)).toInt32))]) (rest := []) (lenOf pd__I_C rfl) rfl (by show 2 * 0 + _ ≤ _; exact Nat.le_of_eq rfl) (hb hby d1_19) rfl e0 (by decide) (by decide) (c' := 0) (s' := 0) rfl rfl
  clear q1a q1b q1c kq1 cq1
  have N1 := Fr.app N0 (Fr.nil n0)
  obtain rfl : v1 = some (.int (List.getD own_al i_ 0)) := hv1.trans (congrArg (fun z => some (Value.int z)) rfl)
  refine own_stWX (T' := T1) (g' := (mkF m 22 #[.val (.long pp), .second, iv jj, rv x] [(.int (List.getD own_al i_ 0))])) st1 ?_
  clear st1
  exact own_retNWX X1 hZ hS0 (by rw [eq1]; exact hk0) hEL (by rw [eq1]; exact CR0) hx (t := .char) hret (by simp) hlk (hb hby d1_22) (by decide) (by decide) (by rw [eq1]; exact ⟨_, congrArg (fun z => some (Value.int z)) (own_nch (own_alR _ (own_alM hi_))), N1, (Keep.refl h0 []), own_alR _ (own_alM hi_), own_alN _ (own_alM hi_), Lit.stays (s := Z) (vm0 := s.vm) LT0 (own_wx X1.warmed.wide)⟩)
theorem d19_0 : decode jdk_43_method_4_code 0 = .ok (.iload_n 0, 1) := by decide +kernel
theorem d19_1 : decode jdk_43_method_4_code 1 = .ok (.ifCond .lt 14, 3) := by decide +kernel
theorem d19_4 : decode jdk_43_method_4_code 4 = .ok (.iload_n 0, 1) := by decide +kernel
theorem d19_5 : decode jdk_43_method_4_code 5 = .ok (.sipush 255, 3) := by decide +kernel
theorem d19_8 : decode jdk_43_method_4_code 8 = .ok (.if_icmp .gt 7, 3) := by decide +kernel
theorem d19_11 : decode jdk_43_method_4_code 11 = .ok (.iconst 1, 1) := by decide +kernel
theorem d19_12 : decode jdk_43_method_4_code 12 = .ok (.goto 4, 3) := by decide +kernel
theorem d19_16 : decode jdk_43_method_4_code 16 = .ok (.ireturn, 1) := by decide +kernel
theorem pn_5 : plainName "java/lang/StringLatin1" = true := by first | (simp [plainName, overriddenIn]; done) | decide +kernel
theorem ef_can (m : MethodId) (x0 : Int32) : entryFrame m #[(.int x0)] 1 = mkF m 0 #[iv x0] [] := by first | (simp [entryFrame, mkF, argsToLocals, Value.category]; done) | rfl
def Q_can (Z : State)  (h0 : Heap) (n0 : Nat) (v : Option Value) (h : Heap) (L : List Loc) : Prop := (v = some (.int (1 : Int32))) ∧ (Fr n0 L) ∧ (h = h0)
set_option maxRecDepth 65536 in
set_option maxHeartbeats 40000000 in
theorem rm_can (l : Launch) (Z : State) (a0 : Array Value) (hw : ∀ d ∈ tables_1, d.before a0 Z = true) (ws : List Jvm.Cond)  (h0 : Heap) (n0 : Nat) (O0 : Old Z n0 h0) :
    MetFree l own_m15 (head1 (Jvm.Cond.code own_m15 jdk_43_method_4_code 1 (some .boolean) :: ws) ({ frames := 0, cells := 0, slots := 0, locals := 0 } : Room)) (fun ar_ U => ar_ = #[(.int (58 : Int32))] ∧ Z.Warmed39 U.vm ∧ U.heap = h0) (fun _ _ _ _ _ => True) (fun _ U o U' => ∃ v L, o = .returned v ∧ Q_can Z  h0 n0 v U'.heap L ∧ FrameEnd U o U' L ({ frames := 0, cells := 0, slots := 0, locals := 0 } : Room).cells ({ frames := 0, cells := 0, slots := 0, locals := 0 } : Room).slots) := by
  refine MetFree.of_bodySF (plainFor_of_name pn_5) hisR ?_
  intro p e s m args below meth c s₁ Bd hml0 hP hK
  obtain ⟨rfl, hZ, hh⟩ := hP
  have hx := Bd.exec
  have hby := Bd.bytes
  have hml : c.maxLocals = 1 := hml0
  have hown : s.vm.findClass "java/lang/StringLatin1" = some m.cls := findClass_of_methodNamed Bd.named
  have hnm := (name_of_methodNamed Bd.named Bd.method).1
  have X0 : Stand p l e ({ frames := 0, cells := 0, slots := 0, locals := 0 } : Room) s m #[(.int (58 : Int32))] below meth c s₁ [] 0 0 := Stand.of_body Bd
  have e0 : s₁.heap = h0 := by rw [← hh, Bd.state]; rfl
  have N0 := Fr.nil n0
  have hret := Bd.returns
  have hlk : meth.locks = false := Bd.notSynchronized
  show own_E p e below s ({ frames := 0, cells := 0, slots := 0, locals := 0 } : Room).cells ({ frames := 0, cells := 0, slots := 0, locals := 0 } : Room).slots (Q_can Z  h0 n0) s₁ (entryFrame m #[(.int (58 : Int32))] 1)
  rw [ef_can m (58 : Int32)]
  refine own_st (T' := s₁) (g' := (mkF m 1 #[iv (58 : Int32)] [(.int (58 : Int32))])) (fun _ k_ => XS.iloadN X0.here hx rfl (hb hby d19_0) rfl  k_) ?_
  refine own_st (T' := s₁) (g' := (mkF m 4 #[iv (58 : Int32)] [])) (fun _ k_ => XS.ifNo X0.here hx rfl (hb hby d19_1) rfl ((if0 _ _).trans (flt (by decide : ¬ ((58 : Int32) < (0 : Int32)))).1) k_) ?_
  refine own_st (T' := s₁) (g' := (mkF m 5 #[iv (58 : Int32)] [(.int (58 : Int32))])) (fun _ k_ => XS.iloadN X0.here hx rfl (hb hby d19_4) rfl  k_) ?_
  refine own_st (T' := s₁) (g' := (mkF m 8 #[iv (58 : Int32)] [(.int (255 : Int32)), (.int (58 : Int32))])) (fun _ k_ => XS.sipush X0.here hx rfl (hb hby d19_5) k_) ?_
  refine own_st (T' := s₁) (g' := (mkF m 11 #[iv (58 : Int32)] [])) (fun _ k_ => XS.icmpNo X0.here hx rfl (hb hby d19_8) rfl (flt (by decide : ¬ ((255 : Int32) < (58 : Int32)))).2.2.1 k_) ?_
  refine own_st (T' := s₁) (g' := (mkF m 12 #[iv (58 : Int32)] [(.int (1 : Int32))])) (fun _ k_ => XS.iconst X0.here hx rfl (hb hby d19_11) k_) ?_
  refine own_st (T' := s₁) (g' := (mkF m 16 #[iv (58 : Int32)] [(.int (1 : Int32))])) (fun _ k_ => XS.goto X0.here hx rfl (pc0 := 12) (pc' := 16) rfl (hb hby d19_12) (by decide) (by decide) k_) ?_
  exact own_retN X0 hx (t := .boolean) hret (by simp) hlk (hb hby d19_16) (by decide) (by decide) ⟨rfl, N0, e0⟩
def own_la (y0 y1 y2 y3 y4 y5 : Int32) : Int32 := if (y5.toInt8.toInt32) = ((58 : Int32).toInt8.toInt32) then 5 else if (y4.toInt8.toInt32) = ((58 : Int32).toInt8.toInt32) then 4 else if (y3.toInt8.toInt32) = ((58 : Int32).toInt8.toInt32) then 3 else if (y2.toInt8.toInt32) = ((58 : Int32).toInt8.toInt32) then 2 else if (y1.toInt8.toInt32) = ((58 : Int32).toInt8.toInt32) then 1 else if (y0.toInt8.toInt32) = ((58 : Int32).toInt8.toInt32) then 0 else -1
theorem d18_0 : decode jdk_43_method_27_code 0 = .ok (.iload_n 1, 1) := by decide +kernel
theorem d18_1 : decode jdk_43_method_27_code 1 = .ok (.invokestatic 88, 3) := by decide +kernel
theorem d18_4 : decode jdk_43_method_27_code 4 = .ok (.ifCond .ne 5, 3) := by decide +kernel
theorem d18_9 : decode jdk_43_method_27_code 9 = .ok (.iload_n 2, 1) := by decide +kernel
theorem d18_10 : decode jdk_43_method_27_code 10 = .ok (.aload_n 0, 1) := by decide +kernel
theorem d18_11 : decode jdk_43_method_27_code 11 = .ok (.arraylength, 1) := by decide +kernel
theorem d18_12 : decode jdk_43_method_27_code 12 = .ok (.iconst 1, 1) := by decide +kernel
theorem d18_13 : decode jdk_43_method_27_code 13 = .ok (.isub, 1) := by decide +kernel
theorem d18_14 : decode jdk_43_method_27_code 14 = .ok (.invokestatic 38, 3) := by decide +kernel
theorem d18_17 : decode jdk_43_method_27_code 17 = .ok (.istore_n 3, 1) := by decide +kernel
theorem d18_18 : decode jdk_43_method_27_code 18 = .ok (.iload_n 3, 1) := by decide +kernel
theorem d18_19 : decode jdk_43_method_27_code 19 = .ok (.ifCond .lt 19, 3) := by decide +kernel
theorem d18_22 : decode jdk_43_method_27_code 22 = .ok (.aload_n 0, 1) := by decide +kernel
theorem d18_23 : decode jdk_43_method_27_code 23 = .ok (.iload_n 3, 1) := by decide +kernel
theorem d18_24 : decode jdk_43_method_27_code 24 = .ok (.baload, 1) := by decide +kernel
theorem d18_25 : decode jdk_43_method_27_code 25 = .ok (.iload_n 1, 1) := by decide +kernel
theorem d18_26 : decode jdk_43_method_27_code 26 = .ok (.i2b, 1) := by decide +kernel
theorem d18_27 : decode jdk_43_method_27_code 27 = .ok (.if_icmp .ne 5, 3) := by decide +kernel
theorem d18_30 : decode jdk_43_method_27_code 30 = .ok (.iload_n 3, 1) := by decide +kernel
theorem d18_31 : decode jdk_43_method_27_code 31 = .ok (.ireturn, 1) := by decide +kernel
theorem d18_32 : decode jdk_43_method_27_code 32 = .ok (.iinc 3 (-1), 3) := by decide +kernel
theorem d18_35 : decode jdk_43_method_27_code 35 = .ok (.goto (-17), 3) := by decide +kernel
theorem d18_38 : decode jdk_43_method_27_code 38 = .ok (.iconst (-1), 1) := by decide +kernel
theorem d18_39 : decode jdk_43_method_27_code 39 = .ok (.ireturn, 1) := by decide +kernel
theorem pd__I_Z : parseMethodDescriptor "(I)Z" = some ⟨[.int], some .boolean⟩ := by decide +kernel
theorem pd__II_I : parseMethodDescriptor "(II)I" = some ⟨[.int, .int], some .int⟩ := by decide +kernel
theorem ef_li3 (m : MethodId) (x0 : Addr) (x1 : Int32) (x2 : Int32) : entryFrame m #[(.ref x0), (.int x1), (.int x2)] 4 = mkF m 0 #[rv x0, iv x1, iv x2, .unset] [] := by first | (simp [entryFrame, mkF, argsToLocals, Value.category]; done) | rfl
def Q_li3 (Z : State) (t : Addr) (kt : ClassId) (y0 : Int32) (y1 : Int32) (y2 : Int32) (y3 : Int32) (y4 : Int32) (y5 : Int32) (h0 : Heap) (n0 : Nat) (v : Option Value) (h : Heap) (L : List Loc) : Prop := (v = some (.int (own_la y0 y1 y2 y3 y4 y5))) ∧ (Fr n0 L) ∧ (h = h0)
set_option maxRecDepth 65536 in
set_option maxHeartbeats 40000000 in
theorem rm_li3 (l : Launch) (Z : State) (a0 : Array Value) (hw : ∀ d ∈ tables_1, d.before a0 Z = true) (ws : List Jvm.Cond) (t : Addr) (kt : ClassId) (y0 : Int32) (y1 : Int32) (y2 : Int32) (y3 : Int32) (y4 : Int32) (y5 : Int32) (h0 : Heap) (n0 : Nat) (O0 : Old Z n0 h0) (A_x : Arv Z h0 t kt .byte (6 : Int32) [(.int (y0.toInt8.toInt32)), (.int (y1.toInt8.toInt32)), (.int (y2.toInt8.toInt32)), (.int (y3.toInt8.toInt32)), (.int (y4.toInt8.toInt32)), (.int (y5.toInt8.toInt32))] (.int (0 : Int32))) :
    MetFree l own_m16 (head1 (Jvm.Cond.code own_m16 jdk_43_method_27_code 4 (some .int) :: ws) ({ frames := 1, cells := 0, slots := 0, locals := 13 } : Room)) (fun ar_ U => ar_ = #[(.ref t), (.int (58 : Int32)), (.int (5 : Int32))] ∧ Z.Warmed39 U.vm ∧ U.heap = h0) (fun _ _ _ _ _ => True) (fun _ U o U' => ∃ v L, o = .returned v ∧ Q_li3 Z t kt y0 y1 y2 y3 y4 y5 h0 n0 v U'.heap L ∧ FrameEnd U o U' L ({ frames := 1, cells := 0, slots := 0, locals := 13 } : Room).cells ({ frames := 1, cells := 0, slots := 0, locals := 13 } : Room).slots) := by
  refine MetFree.of_bodySF (plainFor_of_name pn_5) hisR ?_
  intro p e s m args below meth c s₁ Bd hml0 hP hK
  obtain ⟨rfl, hZ, hh⟩ := hP
  have hx := Bd.exec
  have hby := Bd.bytes
  have hml : c.maxLocals = 4 := hml0
  have hown : s.vm.findClass "java/lang/StringLatin1" = some m.cls := findClass_of_methodNamed Bd.named
  have hnm := (name_of_methodNamed Bd.named Bd.method).1
  have X0 : Stand p l e ({ frames := 1, cells := 0, slots := 0, locals := 13 } : Room) s m #[(.ref t), (.int (58 : Int32)), (.int (5 : Int32))] below meth c s₁ [] 0 0 := Stand.of_body Bd
  have e0 : s₁.heap = h0 := by rw [← hh, Bd.state]; rfl
  have N0 := Fr.nil n0
  have hret := Bd.returns
  have hlk : meth.locks = false := Bd.notSynchronized
  show own_E p e below s ({ frames := 1, cells := 0, slots := 0, locals := 13 } : Room).cells ({ frames := 1, cells := 0, slots := 0, locals := 13 } : Room).slots (Q_li3 Z t kt y0 y1 y2 y3 y4 y5 h0 n0) s₁ (entryFrame m #[(.ref t), (.int (58 : Int32)), (.int (5 : Int32))] 4)
  rw [ef_li3 m t (58 : Int32) (5 : Int32)]
  refine own_st (T' := s₁) (g' := (mkF m 1 #[rv t, iv (58 : Int32), iv (5 : Int32), .unset] [(.int (58 : Int32))])) (fun _ k_ => XS.iloadN X0.here hx rfl (hb hby d18_0) rfl  k_) ?_
  obtain ⟨_, T1, L1, X1, hQ1, st1⟩ := own_callS X0 hx (y := own_m15) hown (mvT hZ (hw _ (List.mem_of_getElem? (i := 88) rfl))) (mvT hZ (hw _ (List.mem_of_getElem? (i := 89) rfl))) (mvT hZ (hw _ (List.mem_of_getElem? (i := 30) rfl))) (mvT hZ (hw _ (List.mem_of_getElem? (i := 90) rfl))) (by decide) (backOf (W := 0) (rm_can l Z a0 hw []  h0 n0 O0) hZ (hw _ (List.mem_of_getElem? (i := 90) rfl)) (hw _ (List.mem_of_getElem? (i := 30) rfl)) (by decide) (by decide)) (g := (mkF m 1 #[rv t, iv (58 : Int32), iv (5 : Int32), .unset] [(.int (58 : Int32))])) rfl (by rw [hml]; rfl) (argsL := [(.int (58 : Int32))]) (rest := []) (lenOf pd__I_Z rfl) rfl (by show 2 * 0 + _ ≤ _; exact Nat.le_of_eq rfl) (hb hby d18_1) rfl e0 (by decide) (by decide) (c' := 0) (s' := 0) rfl rfl
  obtain ⟨rfl, Nq1, eq1⟩ := hQ1
  have N1 := Fr.app N0 Nq1
  refine own_st (T' := T1) (g' := (mkF m 4 #[rv t, iv (58 : Int32), iv (5 : Int32), .unset] [(.int (1 : Int32))])) st1 ?_
  clear st1
  refine own_st (T' := T1) (g' := (mkF m 9 #[rv t, iv (58 : Int32), iv (5 : Int32), .unset] [])) (fun _ k_ => XS.ifYes X1.here hx rfl (pc0 := 4) (pc' := 9) rfl (hb hby d18_4) rfl ((if0 _ _).trans (feq (by decide : ¬ ((1 : Int32) = (0 : Int32)))).2) (by decide) (by decide) k_) ?_
  refine own_st (T' := T1) (g' := (mkF m 10 #[rv t, iv (58 : Int32), iv (5 : Int32), .unset] [(.int (5 : Int32))])) (fun _ k_ => XS.iloadN X1.here hx rfl (hb hby d18_9) rfl  k_) ?_
  refine own_st (T' := T1) (g' := (mkF m 11 #[rv t, iv (58 : Int32), iv (5 : Int32), .unset] [(.ref t), (.int (5 : Int32))])) (fun _ k_ => XS.aloadN X1.here hx rfl (hb hby d18_10) rfl rfl  k_) ?_
  obtain ⟨cl2, Ar2, -, S2, N2, -, -⟩ := id A_x
  refine own_st (T' := T1) (g' := (mkF m 12 #[rv t, iv (58 : Int32), iv (5 : Int32), .unset] [(.int (6 : Int32)), (.int (5 : Int32))])) (fun t_ k_ => X1.arraylength hx (by rw [eq1]; exact Ar2.1) (State.isArrayOf_alike hZ.alike Ar2.2.1) (g := (mkF m 11 #[rv t, iv (58 : Int32), iv (5 : Int32), .unset] [(.ref t), (.int (5 : Int32))])) rfl rfl (hb hby d18_11) _ (by rw [len_of S2 N2]; exact k_)) ?_
  refine own_st (T' := T1) (g' := (mkF m 13 #[rv t, iv (58 : Int32), iv (5 : Int32), .unset] [(.int (1 : Int32)), (.int (6 : Int32)), (.int (5 : Int32))])) (fun _ k_ => XS.iconst X1.here hx rfl (hb hby d18_12) k_) ?_
  refine own_st (T' := T1) (g' := (mkF m 14 #[rv t, iv (58 : Int32), iv (5 : Int32), .unset] [(.int (5 : Int32)), (.int (5 : Int32))])) (fun _ k_ => XS.isub X1.here hx rfl (hb hby d18_13) rfl k_) ?_
  obtain ⟨_, T3, L3, X3, hQ3, st3⟩ := own_callS X1 hx (y := own_m8) hown (mvT hZ (hw _ (List.mem_of_getElem? (i := 91) rfl))) (mvT hZ (hw _ (List.mem_of_getElem? (i := 92) rfl))) (mvT hZ (hw _ (List.mem_of_getElem? (i := 93) rfl))) (mvT hZ (hw _ (List.mem_of_getElem? (i := 94) rfl))) (by decide) (backOf (W := 0) (rm_min l Z a0 hw [] (5 : Int32) (5 : Int32) h0 n0 O0 (by decide)) hZ (hw _ (List.mem_of_getElem? (i := 94) rfl)) (hw _ (List.mem_of_getElem? (i := 93) rfl)) (by decide) (by decide)) (g := (mkF m 14 #[rv t, iv (58 : Int32), iv (5 : Int32), .unset] [(.int (5 : Int32)), (.int (5 : Int32))])) rfl (by rw [hml]; rfl) (argsL := [(.int (5 : Int32)), (.int (5 : Int32))]) (rest := []) (lenOf pd__II_I rfl) rfl (by show 2 * 0 + _ ≤ _; exact Nat.le_of_eq rfl) (hb hby d18_14) rfl eq1 (by decide) (by decide) (c' := 0) (s' := 0) rfl rfl
  obtain ⟨rfl, Nq3, eq3⟩ := hQ3
  have N3 := Fr.app N1 Nq3
  refine own_st (T' := T3) (g' := (mkF m 17 #[rv t, iv (58 : Int32), iv (5 : Int32), .unset] [(.int (5 : Int32))])) st3 ?_
  clear st3
  refine own_st (T' := T3) (g' := (mkF m 18 #[rv t, iv (58 : Int32), iv (5 : Int32), iv (5 : Int32)] [])) (fun _ k_ => XS.istoreN X3.here hx rfl (hb hby d18_17) rfl (l' := #[rv t, iv (58 : Int32), iv (5 : Int32), iv (5 : Int32)]) rfl k_) ?_
  refine own_st (T' := T3) (g' := (mkF m 19 #[rv t, iv (58 : Int32), iv (5 : Int32), iv (5 : Int32)] [(.int (5 : Int32))])) (fun _ k_ => XS.iloadN X3.here hx rfl (hb hby d18_18) rfl  k_) ?_
  refine own_st (T' := T3) (g' := (mkF m 22 #[rv t, iv (58 : Int32), iv (5 : Int32), iv (5 : Int32)] [])) (fun _ k_ => XS.ifNo X3.here hx rfl (hb hby d18_19) rfl ((if0 _ _).trans (flt (by decide : ¬ ((5 : Int32) < (0 : Int32)))).1) k_) ?_
  refine own_st (T' := T3) (g' := (mkF m 23 #[rv t, iv (58 : Int32), iv (5 : Int32), iv (5 : Int32)] [(.ref t)])) (fun _ k_ => XS.aloadN X3.here hx rfl (hb hby d18_22) rfl rfl  k_) ?_
  refine own_st (T' := T3) (g' := (mkF m 24 #[rv t, iv (58 : Int32), iv (5 : Int32), iv (5 : Int32)] [(.int (5 : Int32)), (.ref t)])) (fun _ k_ => XS.iloadN X3.here hx rfl (hb hby d18_23) rfl  k_) ?_
  obtain ⟨cl4, Ar4, q4, S4, N4, H4, G4⟩ := id A_x
  have hin4 : ¬ ((5 : Int32) < 0 ∨ cl4.slots.size ≤ ((5 : Int32)).toNatClampNeg) := inb_of S4 ⟨by decide, by decide⟩
  refine own_st (T' := T3) (g' := (mkF m 25 #[rv t, iv (58 : Int32), iv (5 : Int32), iv (5 : Int32)] [(.int (y5.toInt8.toInt32))])) (X3.baloadBytes hx (j := (5 : Int32)) (v := (.int (y5.toInt8.toInt32))) (by rw [eq3]; exact Ar4.1) (State.isArrayOf_alike hZ.alike Ar4.2.1) Ar4.2.2 hin4 (H4.at hin4 rfl) (g := (mkF m 24 #[rv t, iv (58 : Int32), iv (5 : Int32), iv (5 : Int32)] [(.int (5 : Int32)), (.ref t)])) rfl rfl (hb hby d18_24)) ?_
  clear hin4 G4 H4 N4 S4 q4 Ar4 cl4
  refine own_st (T' := T3) (g' := (mkF m 26 #[rv t, iv (58 : Int32), iv (5 : Int32), iv (5 : Int32)] [(.int (58 : Int32)), (.int (y5.toInt8.toInt32))])) (fun _ k_ => XS.iloadN X3.here hx rfl (hb hby d18_25) rfl  k_) ?_
  refine own_st (T' := T3) (g' := (mkF m 27 #[rv t, iv (58 : Int32), iv (5 : Int32), iv (5 : Int32)] [(.int ((58 : Int32).toInt8.toInt32)), (.int (y5.toInt8.toInt32))])) (fun _ k_ => XS.i2b X3.here hx rfl (hb hby d18_26) rfl k_) ?_
  by_cases hc5 : (y5.toInt8.toInt32) = ((58 : Int32).toInt8.toInt32)
  · refine own_st (T' := T3) (g' := (mkF m 30 #[rv t, iv (58 : Int32), iv (5 : Int32), iv (5 : Int32)] [])) (fun _ k_ => XS.icmpNo X3.here hx rfl (hb hby d18_27) rfl (teq hc5).2 k_) ?_
    refine own_st (T' := T3) (g' := (mkF m 31 #[rv t, iv (58 : Int32), iv (5 : Int32), iv (5 : Int32)] [(.int (5 : Int32))])) (fun _ k_ => XS.iloadN X3.here hx rfl (hb hby d18_30) rfl  k_) ?_
    exact own_retI X3 hx hret hlk (hb hby d18_31) (by decide) (by decide) ⟨congrArg (fun z => some (Value.int z)) (by unfold own_la; rw [if_pos hc5]), N3, eq3⟩
  · refine own_st (T' := T3) (g' := (mkF m 32 #[rv t, iv (58 : Int32), iv (5 : Int32), iv (5 : Int32)] [])) (fun _ k_ => XS.icmpYes X3.here hx rfl (pc0 := 27) (pc' := 32) rfl (hb hby d18_27) rfl (feq hc5).2 (by decide) (by decide) k_) ?_
    refine own_st (T' := T3) (g' := (mkF m 35 #[rv t, iv (58 : Int32), iv (5 : Int32), iv (4 : Int32)] [])) (fun _ k_ => XS.iinc X3.here hx rfl (hb hby d18_32) rfl (l' := #[rv t, iv (58 : Int32), iv (5 : Int32), iv (4 : Int32)]) rfl k_) ?_
    refine own_st (T' := T3) (g' := (mkF m 18 #[rv t, iv (58 : Int32), iv (5 : Int32), iv (4 : Int32)] [])) (fun _ k_ => XS.goto X3.here hx rfl (pc0 := 35) (pc' := 18) rfl (hb hby d18_35) (by decide) (by decide) k_) ?_
    refine own_st (T' := T3) (g' := (mkF m 19 #[rv t, iv (58 : Int32), iv (5 : Int32), iv (4 : Int32)] [(.int (4 : Int32))])) (fun _ k_ => XS.iloadN X3.here hx rfl (hb hby d18_18) rfl  k_) ?_
    refine own_st (T' := T3) (g' := (mkF m 22 #[rv t, iv (58 : Int32), iv (5 : Int32), iv (4 : Int32)] [])) (fun _ k_ => XS.ifNo X3.here hx rfl (hb hby d18_19) rfl ((if0 _ _).trans (flt (by decide : ¬ ((4 : Int32) < (0 : Int32)))).1) k_) ?_
    refine own_st (T' := T3) (g' := (mkF m 23 #[rv t, iv (58 : Int32), iv (5 : Int32), iv (4 : Int32)] [(.ref t)])) (fun _ k_ => XS.aloadN X3.here hx rfl (hb hby d18_22) rfl rfl  k_) ?_
    refine own_st (T' := T3) (g' := (mkF m 24 #[rv t, iv (58 : Int32), iv (5 : Int32), iv (4 : Int32)] [(.int (4 : Int32)), (.ref t)])) (fun _ k_ => XS.iloadN X3.here hx rfl (hb hby d18_23) rfl  k_) ?_
    obtain ⟨cl6, Ar6, q6, S6, N6, H6, G6⟩ := id A_x
    have hin6 : ¬ ((4 : Int32) < 0 ∨ cl6.slots.size ≤ ((4 : Int32)).toNatClampNeg) := inb_of S6 ⟨by decide, by decide⟩
    refine own_st (T' := T3) (g' := (mkF m 25 #[rv t, iv (58 : Int32), iv (5 : Int32), iv (4 : Int32)] [(.int (y4.toInt8.toInt32))])) (X3.baloadBytes hx (j := (4 : Int32)) (v := (.int (y4.toInt8.toInt32))) (by rw [eq3]; exact Ar6.1) (State.isArrayOf_alike hZ.alike Ar6.2.1) Ar6.2.2 hin6 (H6.at hin6 rfl) (g := (mkF m 24 #[rv t, iv (58 : Int32), iv (5 : Int32), iv (4 : Int32)] [(.int (4 : Int32)), (.ref t)])) rfl rfl (hb hby d18_24)) ?_
    clear hin6 G6 H6 N6 S6 q6 Ar6 cl6
    refine own_st (T' := T3) (g' := (mkF m 26 #[rv t, iv (58 : Int32), iv (5 : Int32), iv (4 : Int32)] [(.int (58 : Int32)), (.int (y4.toInt8.toInt32))])) (fun _ k_ => XS.iloadN X3.here hx rfl (hb hby d18_25) rfl  k_) ?_
    refine own_st (T' := T3) (g' := (mkF m 27 #[rv t, iv (58 : Int32), iv (5 : Int32), iv (4 : Int32)] [(.int ((58 : Int32).toInt8.toInt32)), (.int (y4.toInt8.toInt32))])) (fun _ k_ => XS.i2b X3.here hx rfl (hb hby d18_26) rfl k_) ?_
    by_cases hc7 : (y4.toInt8.toInt32) = ((58 : Int32).toInt8.toInt32)
    · refine own_st (T' := T3) (g' := (mkF m 30 #[rv t, iv (58 : Int32), iv (5 : Int32), iv (4 : Int32)] [])) (fun _ k_ => XS.icmpNo X3.here hx rfl (hb hby d18_27) rfl (teq hc7).2 k_) ?_
      refine own_st (T' := T3) (g' := (mkF m 31 #[rv t, iv (58 : Int32), iv (5 : Int32), iv (4 : Int32)] [(.int (4 : Int32))])) (fun _ k_ => XS.iloadN X3.here hx rfl (hb hby d18_30) rfl  k_) ?_
      exact own_retI X3 hx hret hlk (hb hby d18_31) (by decide) (by decide) ⟨congrArg (fun z => some (Value.int z)) (by unfold own_la; rw [if_neg hc5, if_pos hc7]), N3, eq3⟩
    · refine own_st (T' := T3) (g' := (mkF m 32 #[rv t, iv (58 : Int32), iv (5 : Int32), iv (4 : Int32)] [])) (fun _ k_ => XS.icmpYes X3.here hx rfl (pc0 := 27) (pc' := 32) rfl (hb hby d18_27) rfl (feq hc7).2 (by decide) (by decide) k_) ?_
      refine own_st (T' := T3) (g' := (mkF m 35 #[rv t, iv (58 : Int32), iv (5 : Int32), iv (3 : Int32)] [])) (fun _ k_ => XS.iinc X3.here hx rfl (hb hby d18_32) rfl (l' := #[rv t, iv (58 : Int32), iv (5 : Int32), iv (3 : Int32)]) rfl k_) ?_
      refine own_st (T' := T3) (g' := (mkF m 18 #[rv t, iv (58 : Int32), iv (5 : Int32), iv (3 : Int32)] [])) (fun _ k_ => XS.goto X3.here hx rfl (pc0 := 35) (pc' := 18) rfl (hb hby d18_35) (by decide) (by decide) k_) ?_
      refine own_st (T' := T3) (g' := (mkF m 19 #[rv t, iv (58 : Int32), iv (5 : Int32), iv (3 : Int32)] [(.int (3 : Int32))])) (fun _ k_ => XS.iloadN X3.here hx rfl (hb hby d18_18) rfl  k_) ?_
      refine own_st (T' := T3) (g' := (mkF m 22 #[rv t, iv (58 : Int32), iv (5 : Int32), iv (3 : Int32)] [])) (fun _ k_ => XS.ifNo X3.here hx rfl (hb hby d18_19) rfl ((if0 _ _).trans (flt (by decide : ¬ ((3 : Int32) < (0 : Int32)))).1) k_) ?_
      refine own_st (T' := T3) (g' := (mkF m 23 #[rv t, iv (58 : Int32), iv (5 : Int32), iv (3 : Int32)] [(.ref t)])) (fun _ k_ => XS.aloadN X3.here hx rfl (hb hby d18_22) rfl rfl  k_) ?_
      refine own_st (T' := T3) (g' := (mkF m 24 #[rv t, iv (58 : Int32), iv (5 : Int32), iv (3 : Int32)] [(.int (3 : Int32)), (.ref t)])) (fun _ k_ => XS.iloadN X3.here hx rfl (hb hby d18_23) rfl  k_) ?_
      obtain ⟨cl8, Ar8, q8, S8, N8, H8, G8⟩ := id A_x
      have hin8 : ¬ ((3 : Int32) < 0 ∨ cl8.slots.size ≤ ((3 : Int32)).toNatClampNeg) := inb_of S8 ⟨by decide, by decide⟩
      refine own_st (T' := T3) (g' := (mkF m 25 #[rv t, iv (58 : Int32), iv (5 : Int32), iv (3 : Int32)] [(.int (y3.toInt8.toInt32))])) (X3.baloadBytes hx (j := (3 : Int32)) (v := (.int (y3.toInt8.toInt32))) (by rw [eq3]; exact Ar8.1) (State.isArrayOf_alike hZ.alike Ar8.2.1) Ar8.2.2 hin8 (H8.at hin8 rfl) (g := (mkF m 24 #[rv t, iv (58 : Int32), iv (5 : Int32), iv (3 : Int32)] [(.int (3 : Int32)), (.ref t)])) rfl rfl (hb hby d18_24)) ?_
      clear hin8 G8 H8 N8 S8 q8 Ar8 cl8
      refine own_st (T' := T3) (g' := (mkF m 26 #[rv t, iv (58 : Int32), iv (5 : Int32), iv (3 : Int32)] [(.int (58 : Int32)), (.int (y3.toInt8.toInt32))])) (fun _ k_ => XS.iloadN X3.here hx rfl (hb hby d18_25) rfl  k_) ?_
      refine own_st (T' := T3) (g' := (mkF m 27 #[rv t, iv (58 : Int32), iv (5 : Int32), iv (3 : Int32)] [(.int ((58 : Int32).toInt8.toInt32)), (.int (y3.toInt8.toInt32))])) (fun _ k_ => XS.i2b X3.here hx rfl (hb hby d18_26) rfl k_) ?_
      by_cases hc9 : (y3.toInt8.toInt32) = ((58 : Int32).toInt8.toInt32)
      · refine own_st (T' := T3) (g' := (mkF m 30 #[rv t, iv (58 : Int32), iv (5 : Int32), iv (3 : Int32)] [])) (fun _ k_ => XS.icmpNo X3.here hx rfl (hb hby d18_27) rfl (teq hc9).2 k_) ?_
        refine own_st (T' := T3) (g' := (mkF m 31 #[rv t, iv (58 : Int32), iv (5 : Int32), iv (3 : Int32)] [(.int (3 : Int32))])) (fun _ k_ => XS.iloadN X3.here hx rfl (hb hby d18_30) rfl  k_) ?_
        exact own_retI X3 hx hret hlk (hb hby d18_31) (by decide) (by decide) ⟨congrArg (fun z => some (Value.int z)) (by unfold own_la; rw [if_neg hc5, if_neg hc7, if_pos hc9]), N3, eq3⟩
      · refine own_st (T' := T3) (g' := (mkF m 32 #[rv t, iv (58 : Int32), iv (5 : Int32), iv (3 : Int32)] [])) (fun _ k_ => XS.icmpYes X3.here hx rfl (pc0 := 27) (pc' := 32) rfl (hb hby d18_27) rfl (feq hc9).2 (by decide) (by decide) k_) ?_
        refine own_st (T' := T3) (g' := (mkF m 35 #[rv t, iv (58 : Int32), iv (5 : Int32), iv (2 : Int32)] [])) (fun _ k_ => XS.iinc X3.here hx rfl (hb hby d18_32) rfl (l' := #[rv t, iv (58 : Int32), iv (5 : Int32), iv (2 : Int32)]) rfl k_) ?_
        refine own_st (T' := T3) (g' := (mkF m 18 #[rv t, iv (58 : Int32), iv (5 : Int32), iv (2 : Int32)] [])) (fun _ k_ => XS.goto X3.here hx rfl (pc0 := 35) (pc' := 18) rfl (hb hby d18_35) (by decide) (by decide) k_) ?_
        refine own_st (T' := T3) (g' := (mkF m 19 #[rv t, iv (58 : Int32), iv (5 : Int32), iv (2 : Int32)] [(.int (2 : Int32))])) (fun _ k_ => XS.iloadN X3.here hx rfl (hb hby d18_18) rfl  k_) ?_
        refine own_st (T' := T3) (g' := (mkF m 22 #[rv t, iv (58 : Int32), iv (5 : Int32), iv (2 : Int32)] [])) (fun _ k_ => XS.ifNo X3.here hx rfl (hb hby d18_19) rfl ((if0 _ _).trans (flt (by decide : ¬ ((2 : Int32) < (0 : Int32)))).1) k_) ?_
        refine own_st (T' := T3) (g' := (mkF m 23 #[rv t, iv (58 : Int32), iv (5 : Int32), iv (2 : Int32)] [(.ref t)])) (fun _ k_ => XS.aloadN X3.here hx rfl (hb hby d18_22) rfl rfl  k_) ?_
        refine own_st (T' := T3) (g' := (mkF m 24 #[rv t, iv (58 : Int32), iv (5 : Int32), iv (2 : Int32)] [(.int (2 : Int32)), (.ref t)])) (fun _ k_ => XS.iloadN X3.here hx rfl (hb hby d18_23) rfl  k_) ?_
        obtain ⟨cl10, Ar10, q10, S10, N10, H10, G10⟩ := id A_x
        have hin10 : ¬ ((2 : Int32) < 0 ∨ cl10.slots.size ≤ ((2 : Int32)).toNatClampNeg) := inb_of S10 ⟨by decide, by decide⟩
        refine own_st (T' := T3) (g' := (mkF m 25 #[rv t, iv (58 : Int32), iv (5 : Int32), iv (2 : Int32)] [(.int (y2.toInt8.toInt32))])) (X3.baloadBytes hx (j := (2 : Int32)) (v := (.int (y2.toInt8.toInt32))) (by rw [eq3]; exact Ar10.1) (State.isArrayOf_alike hZ.alike Ar10.2.1) Ar10.2.2 hin10 (H10.at hin10 rfl) (g := (mkF m 24 #[rv t, iv (58 : Int32), iv (5 : Int32), iv (2 : Int32)] [(.int (2 : Int32)), (.ref t)])) rfl rfl (hb hby d18_24)) ?_
        clear hin10 G10 H10 N10 S10 q10 Ar10 cl10
        refine own_st (T' := T3) (g' := (mkF m 26 #[rv t, iv (58 : Int32), iv (5 : Int32), iv (2 : Int32)] [(.int (58 : Int32)), (.int (y2.toInt8.toInt32))])) (fun _ k_ => XS.iloadN X3.here hx rfl (hb hby d18_25) rfl  k_) ?_
        refine own_st (T' := T3) (g' := (mkF m 27 #[rv t, iv (58 : Int32), iv (5 : Int32), iv (2 : Int32)] [(.int ((58 : Int32).toInt8.toInt32)), (.int (y2.toInt8.toInt32))])) (fun _ k_ => XS.i2b X3.here hx rfl (hb hby d18_26) rfl k_) ?_
        by_cases hc11 : (y2.toInt8.toInt32) = ((58 : Int32).toInt8.toInt32)
        · refine own_st (T' := T3) (g' := (mkF m 30 #[rv t, iv (58 : Int32), iv (5 : Int32), iv (2 : Int32)] [])) (fun _ k_ => XS.icmpNo X3.here hx rfl (hb hby d18_27) rfl (teq hc11).2 k_) ?_
          refine own_st (T' := T3) (g' := (mkF m 31 #[rv t, iv (58 : Int32), iv (5 : Int32), iv (2 : Int32)] [(.int (2 : Int32))])) (fun _ k_ => XS.iloadN X3.here hx rfl (hb hby d18_30) rfl  k_) ?_
          exact own_retI X3 hx hret hlk (hb hby d18_31) (by decide) (by decide) ⟨congrArg (fun z => some (Value.int z)) (by unfold own_la; rw [if_neg hc5, if_neg hc7, if_neg hc9, if_pos hc11]), N3, eq3⟩
        · refine own_st (T' := T3) (g' := (mkF m 32 #[rv t, iv (58 : Int32), iv (5 : Int32), iv (2 : Int32)] [])) (fun _ k_ => XS.icmpYes X3.here hx rfl (pc0 := 27) (pc' := 32) rfl (hb hby d18_27) rfl (feq hc11).2 (by decide) (by decide) k_) ?_
          refine own_st (T' := T3) (g' := (mkF m 35 #[rv t, iv (58 : Int32), iv (5 : Int32), iv (1 : Int32)] [])) (fun _ k_ => XS.iinc X3.here hx rfl (hb hby d18_32) rfl (l' := #[rv t, iv (58 : Int32), iv (5 : Int32), iv (1 : Int32)]) rfl k_) ?_
          refine own_st (T' := T3) (g' := (mkF m 18 #[rv t, iv (58 : Int32), iv (5 : Int32), iv (1 : Int32)] [])) (fun _ k_ => XS.goto X3.here hx rfl (pc0 := 35) (pc' := 18) rfl (hb hby d18_35) (by decide) (by decide) k_) ?_
          refine own_st (T' := T3) (g' := (mkF m 19 #[rv t, iv (58 : Int32), iv (5 : Int32), iv (1 : Int32)] [(.int (1 : Int32))])) (fun _ k_ => XS.iloadN X3.here hx rfl (hb hby d18_18) rfl  k_) ?_
          refine own_st (T' := T3) (g' := (mkF m 22 #[rv t, iv (58 : Int32), iv (5 : Int32), iv (1 : Int32)] [])) (fun _ k_ => XS.ifNo X3.here hx rfl (hb hby d18_19) rfl ((if0 _ _).trans (flt (by decide : ¬ ((1 : Int32) < (0 : Int32)))).1) k_) ?_
          refine own_st (T' := T3) (g' := (mkF m 23 #[rv t, iv (58 : Int32), iv (5 : Int32), iv (1 : Int32)] [(.ref t)])) (fun _ k_ => XS.aloadN X3.here hx rfl (hb hby d18_22) rfl rfl  k_) ?_
          refine own_st (T' := T3) (g' := (mkF m 24 #[rv t, iv (58 : Int32), iv (5 : Int32), iv (1 : Int32)] [(.int (1 : Int32)), (.ref t)])) (fun _ k_ => XS.iloadN X3.here hx rfl (hb hby d18_23) rfl  k_) ?_
          obtain ⟨cl12, Ar12, q12, S12, N12, H12, G12⟩ := id A_x
          have hin12 : ¬ ((1 : Int32) < 0 ∨ cl12.slots.size ≤ ((1 : Int32)).toNatClampNeg) := inb_of S12 ⟨by decide, by decide⟩
          refine own_st (T' := T3) (g' := (mkF m 25 #[rv t, iv (58 : Int32), iv (5 : Int32), iv (1 : Int32)] [(.int (y1.toInt8.toInt32))])) (X3.baloadBytes hx (j := (1 : Int32)) (v := (.int (y1.toInt8.toInt32))) (by rw [eq3]; exact Ar12.1) (State.isArrayOf_alike hZ.alike Ar12.2.1) Ar12.2.2 hin12 (H12.at hin12 rfl) (g := (mkF m 24 #[rv t, iv (58 : Int32), iv (5 : Int32), iv (1 : Int32)] [(.int (1 : Int32)), (.ref t)])) rfl rfl (hb hby d18_24)) ?_
          clear hin12 G12 H12 N12 S12 q12 Ar12 cl12
          refine own_st (T' := T3) (g' := (mkF m 26 #[rv t, iv (58 : Int32), iv (5 : Int32), iv (1 : Int32)] [(.int (58 : Int32)), (.int (y1.toInt8.toInt32))])) (fun _ k_ => XS.iloadN X3.here hx rfl (hb hby d18_25) rfl  k_) ?_
          refine own_st (T' := T3) (g' := (mkF m 27 #[rv t, iv (58 : Int32), iv (5 : Int32), iv (1 : Int32)] [(.int ((58 : Int32).toInt8.toInt32)), (.int (y1.toInt8.toInt32))])) (fun _ k_ => XS.i2b X3.here hx rfl (hb hby d18_26) rfl k_) ?_
          by_cases hc13 : (y1.toInt8.toInt32) = ((58 : Int32).toInt8.toInt32)
          · refine own_st (T' := T3) (g' := (mkF m 30 #[rv t, iv (58 : Int32), iv (5 : Int32), iv (1 : Int32)] [])) (fun _ k_ => XS.icmpNo X3.here hx rfl (hb hby d18_27) rfl (teq hc13).2 k_) ?_
            refine own_st (T' := T3) (g' := (mkF m 31 #[rv t, iv (58 : Int32), iv (5 : Int32), iv (1 : Int32)] [(.int (1 : Int32))])) (fun _ k_ => XS.iloadN X3.here hx rfl (hb hby d18_30) rfl  k_) ?_
            exact own_retI X3 hx hret hlk (hb hby d18_31) (by decide) (by decide) ⟨congrArg (fun z => some (Value.int z)) (by unfold own_la; rw [if_neg hc5, if_neg hc7, if_neg hc9, if_neg hc11, if_pos hc13]), N3, eq3⟩
          · refine own_st (T' := T3) (g' := (mkF m 32 #[rv t, iv (58 : Int32), iv (5 : Int32), iv (1 : Int32)] [])) (fun _ k_ => XS.icmpYes X3.here hx rfl (pc0 := 27) (pc' := 32) rfl (hb hby d18_27) rfl (feq hc13).2 (by decide) (by decide) k_) ?_
            refine own_st (T' := T3) (g' := (mkF m 35 #[rv t, iv (58 : Int32), iv (5 : Int32), iv (0 : Int32)] [])) (fun _ k_ => XS.iinc X3.here hx rfl (hb hby d18_32) rfl (l' := #[rv t, iv (58 : Int32), iv (5 : Int32), iv (0 : Int32)]) rfl k_) ?_
            refine own_st (T' := T3) (g' := (mkF m 18 #[rv t, iv (58 : Int32), iv (5 : Int32), iv (0 : Int32)] [])) (fun _ k_ => XS.goto X3.here hx rfl (pc0 := 35) (pc' := 18) rfl (hb hby d18_35) (by decide) (by decide) k_) ?_
            refine own_st (T' := T3) (g' := (mkF m 19 #[rv t, iv (58 : Int32), iv (5 : Int32), iv (0 : Int32)] [(.int (0 : Int32))])) (fun _ k_ => XS.iloadN X3.here hx rfl (hb hby d18_18) rfl  k_) ?_
            refine own_st (T' := T3) (g' := (mkF m 22 #[rv t, iv (58 : Int32), iv (5 : Int32), iv (0 : Int32)] [])) (fun _ k_ => XS.ifNo X3.here hx rfl (hb hby d18_19) rfl ((if0 _ _).trans (flt (by decide : ¬ ((0 : Int32) < (0 : Int32)))).1) k_) ?_
            refine own_st (T' := T3) (g' := (mkF m 23 #[rv t, iv (58 : Int32), iv (5 : Int32), iv (0 : Int32)] [(.ref t)])) (fun _ k_ => XS.aloadN X3.here hx rfl (hb hby d18_22) rfl rfl  k_) ?_
            refine own_st (T' := T3) (g' := (mkF m 24 #[rv t, iv (58 : Int32), iv (5 : Int32), iv (0 : Int32)] [(.int (0 : Int32)), (.ref t)])) (fun _ k_ => XS.iloadN X3.here hx rfl (hb hby d18_23) rfl  k_) ?_
            obtain ⟨cl14, Ar14, q14, S14, N14, H14, G14⟩ := id A_x
            have hin14 : ¬ ((0 : Int32) < 0 ∨ cl14.slots.size ≤ ((0 : Int32)).toNatClampNeg) := inb_of S14 ⟨by decide, by decide⟩
            refine own_st (T' := T3) (g' := (mkF m 25 #[rv t, iv (58 : Int32), iv (5 : Int32), iv (0 : Int32)] [(.int (y0.toInt8.toInt32))])) (X3.baloadBytes hx (j := (0 : Int32)) (v := (.int (y0.toInt8.toInt32))) (by rw [eq3]; exact Ar14.1) (State.isArrayOf_alike hZ.alike Ar14.2.1) Ar14.2.2 hin14 (H14.at hin14 rfl) (g := (mkF m 24 #[rv t, iv (58 : Int32), iv (5 : Int32), iv (0 : Int32)] [(.int (0 : Int32)), (.ref t)])) rfl rfl (hb hby d18_24)) ?_
            clear hin14 G14 H14 N14 S14 q14 Ar14 cl14
            refine own_st (T' := T3) (g' := (mkF m 26 #[rv t, iv (58 : Int32), iv (5 : Int32), iv (0 : Int32)] [(.int (58 : Int32)), (.int (y0.toInt8.toInt32))])) (fun _ k_ => XS.iloadN X3.here hx rfl (hb hby d18_25) rfl  k_) ?_
            refine own_st (T' := T3) (g' := (mkF m 27 #[rv t, iv (58 : Int32), iv (5 : Int32), iv (0 : Int32)] [(.int ((58 : Int32).toInt8.toInt32)), (.int (y0.toInt8.toInt32))])) (fun _ k_ => XS.i2b X3.here hx rfl (hb hby d18_26) rfl k_) ?_
            by_cases hc15 : (y0.toInt8.toInt32) = ((58 : Int32).toInt8.toInt32)
            · refine own_st (T' := T3) (g' := (mkF m 30 #[rv t, iv (58 : Int32), iv (5 : Int32), iv (0 : Int32)] [])) (fun _ k_ => XS.icmpNo X3.here hx rfl (hb hby d18_27) rfl (teq hc15).2 k_) ?_
              refine own_st (T' := T3) (g' := (mkF m 31 #[rv t, iv (58 : Int32), iv (5 : Int32), iv (0 : Int32)] [(.int (0 : Int32))])) (fun _ k_ => XS.iloadN X3.here hx rfl (hb hby d18_30) rfl  k_) ?_
              exact own_retI X3 hx hret hlk (hb hby d18_31) (by decide) (by decide) ⟨congrArg (fun z => some (Value.int z)) (by unfold own_la; rw [if_neg hc5, if_neg hc7, if_neg hc9, if_neg hc11, if_neg hc13, if_pos hc15]), N3, eq3⟩
            · refine own_st (T' := T3) (g' := (mkF m 32 #[rv t, iv (58 : Int32), iv (5 : Int32), iv (0 : Int32)] [])) (fun _ k_ => XS.icmpYes X3.here hx rfl (pc0 := 27) (pc' := 32) rfl (hb hby d18_27) rfl (feq hc15).2 (by decide) (by decide) k_) ?_
              refine own_st (T' := T3) (g' := (mkF m 35 #[rv t, iv (58 : Int32), iv (5 : Int32), iv (-1 : Int32)] [])) (fun _ k_ => XS.iinc X3.here hx rfl (hb hby d18_32) rfl (l' := #[rv t, iv (58 : Int32), iv (5 : Int32), iv (-1 : Int32)]) rfl k_) ?_
              refine own_st (T' := T3) (g' := (mkF m 18 #[rv t, iv (58 : Int32), iv (5 : Int32), iv (-1 : Int32)] [])) (fun _ k_ => XS.goto X3.here hx rfl (pc0 := 35) (pc' := 18) rfl (hb hby d18_35) (by decide) (by decide) k_) ?_
              refine own_st (T' := T3) (g' := (mkF m 19 #[rv t, iv (58 : Int32), iv (5 : Int32), iv (-1 : Int32)] [(.int (-1 : Int32))])) (fun _ k_ => XS.iloadN X3.here hx rfl (hb hby d18_18) rfl  k_) ?_
              refine own_st (T' := T3) (g' := (mkF m 38 #[rv t, iv (58 : Int32), iv (5 : Int32), iv (-1 : Int32)] [])) (fun _ k_ => XS.ifYes X3.here hx rfl (pc0 := 19) (pc' := 38) rfl (hb hby d18_19) rfl ((if0 _ _).trans (tlt (by decide : (-1 : Int32) < (0 : Int32))).1) (by decide) (by decide) k_) ?_
              refine own_st (T' := T3) (g' := (mkF m 39 #[rv t, iv (58 : Int32), iv (5 : Int32), iv (-1 : Int32)] [(.int (-1 : Int32))])) (fun _ k_ => XS.iconst X3.here hx rfl (hb hby d18_38) k_) ?_
              exact own_retI X3 hx hret hlk (hb hby d18_39) (by decide) (by decide) ⟨congrArg (fun z => some (Value.int z)) (by unfold own_la; rw [if_neg hc5, if_neg hc7, if_neg hc9, if_neg hc11, if_neg hc13, if_neg hc15]), N3, eq3⟩
theorem d17_0 : decode jdk_42_method_83_code 0 = .ok (.aload_n 0, 1) := by decide +kernel
theorem d17_1 : decode jdk_42_method_83_code 1 = .ok (.invokevirtual 492, 3) := by decide +kernel
theorem d17_4 : decode jdk_42_method_83_code 4 = .ok (.ifCond .eq 15, 3) := by decide +kernel
theorem d17_7 : decode jdk_42_method_83_code 7 = .ok (.aload_n 0, 1) := by decide +kernel
theorem d17_8 : decode jdk_42_method_83_code 8 = .ok (.getfield 9, 3) := by decide +kernel
theorem d17_11 : decode jdk_42_method_83_code 11 = .ok (.iload_n 1, 1) := by decide +kernel
theorem d17_12 : decode jdk_42_method_83_code 12 = .ok (.iload_n 2, 1) := by decide +kernel
theorem d17_13 : decode jdk_42_method_83_code 13 = .ok (.invokestatic 644, 3) := by decide +kernel
theorem d17_16 : decode jdk_42_method_83_code 16 = .ok (.goto 12, 3) := by decide +kernel
theorem d17_28 : decode jdk_42_method_83_code 28 = .ok (.ireturn, 1) := by decide +kernel
theorem pd___Z : parseMethodDescriptor "()Z" = some ⟨[], some .boolean⟩ := by decide +kernel
theorem pd___BII_I : parseMethodDescriptor "([BII)I" = some ⟨[(.array .byte), .int, .int], some .int⟩ := by decide +kernel
theorem ef_li2 (m : MethodId) (x0 : Addr) (x1 : Int32) (x2 : Int32) : entryFrame m #[(.ref x0), (.int x1), (.int x2)] 3 = mkF m 0 #[rv x0, iv x1, iv x2] [] := by first | (simp [entryFrame, mkF, argsToLocals, Value.category]; done) | rfl
def Q_li2 (Z : State) (x : Addr) (t : Addr) (kt : ClassId) (y0 : Int32) (y1 : Int32) (y2 : Int32) (y3 : Int32) (y4 : Int32) (y5 : Int32) (cz : Int32) (h0 : Heap) (n0 : Nat) (v : Option Value) (h : Heap) (L : List Loc) : Prop := (v = some (.int (own_la y0 y1 y2 y3 y4 y5))) ∧ (Fr n0 L) ∧ (h = h0)
set_option maxRecDepth 65536 in
set_option maxHeartbeats 40000000 in
theorem rm_li2 (l : Launch) (Z : State) (a0 : Array Value) (hw : ∀ d ∈ tables_1, d.before a0 Z = true) (ws : List Jvm.Cond) (x : Addr) (t : Addr) (kt : ClassId) (y0 : Int32) (y1 : Int32) (y2 : Int32) (y3 : Int32) (y4 : Int32) (y5 : Int32) (cz : Int32) (h0 : Heap) (n0 : Nat) (O0 : Old Z n0 h0) (E_x : Exa Z h0 x "java/lang/String") (V_x : Fld Z h0 x "java/lang/String" "value" "[B" (.ref t)) (C_x : Fld Z h0 x "java/lang/String" "coder" "B" (.int (0 : Int32))) (A_x : Arv Z h0 t kt .byte (6 : Int32) [(.int (y0.toInt8.toInt32)), (.int (y1.toInt8.toInt32)), (.int (y2.toInt8.toInt32)), (.int (y3.toInt8.toInt32)), (.int (y4.toInt8.toInt32)), (.int (y5.toInt8.toInt32))] (.int (0 : Int32))) (SC : Sta Z Z.heap "java/lang/String" "COMPACT_STRINGS" "Z" (.int cz)) (hcz : ¬ cz = (0 : Int32)) :
    MetFree l own_m17 (head1 (Jvm.Cond.code own_m17 jdk_42_method_83_code 3 (some .int) :: ws) ({ frames := 2, cells := 0, slots := 0, locals := 28 } : Room)) (fun ar_ U => ar_ = #[(.ref x), (.int (58 : Int32)), (.int (5 : Int32))] ∧ Z.Warmed39 U.vm ∧ U.heap = h0) (fun _ _ _ _ _ => True) (fun _ U o U' => ∃ v L, o = .returned v ∧ Q_li2 Z x t kt y0 y1 y2 y3 y4 y5 cz h0 n0 v U'.heap L ∧ FrameEnd U o U' L ({ frames := 2, cells := 0, slots := 0, locals := 28 } : Room).cells ({ frames := 2, cells := 0, slots := 0, locals := 28 } : Room).slots) := by
  refine MetFree.of_bodySF (plainFor_of_name pn_1) hisR ?_
  intro p e s m args below meth c s₁ Bd hml0 hP hK
  obtain ⟨rfl, hZ, hh⟩ := hP
  have hx := Bd.exec
  have hby := Bd.bytes
  have hml : c.maxLocals = 3 := hml0
  have hown : s.vm.findClass "java/lang/String" = some m.cls := findClass_of_methodNamed Bd.named
  have hnm := (name_of_methodNamed Bd.named Bd.method).1
  have X0 : Stand p l e ({ frames := 2, cells := 0, slots := 0, locals := 28 } : Room) s m #[(.ref x), (.int (58 : Int32)), (.int (5 : Int32))] below meth c s₁ [] 0 0 := Stand.of_body Bd
  have e0 : s₁.heap = h0 := by rw [← hh, Bd.state]; rfl
  have N0 := Fr.nil n0
  have hret := Bd.returns
  have hlk : meth.locks = false := Bd.notSynchronized
  show own_E p e below s ({ frames := 2, cells := 0, slots := 0, locals := 28 } : Room).cells ({ frames := 2, cells := 0, slots := 0, locals := 28 } : Room).slots (Q_li2 Z x t kt y0 y1 y2 y3 y4 y5 cz h0 n0) s₁ (entryFrame m #[(.ref x), (.int (58 : Int32)), (.int (5 : Int32))] 3)
  rw [ef_li2 m x (58 : Int32) (5 : Int32)]
  refine own_st (T' := s₁) (g' := (mkF m 1 #[rv x, iv (58 : Int32), iv (5 : Int32)] [(.ref x)])) (fun _ k_ => XS.aloadN X0.here hx rfl (hb hby d17_0) rfl rfl  k_) ?_
  obtain ⟨cq1, kq1, q1a, q1b, q1c⟩ := isOf hZ e0 E_x
  obtain ⟨_, T1, L1, X1, hQ1, st1⟩ := own_callV X0 hx (y := own_m7) (z := own_m7) hown (mvT hZ (hw _ (List.mem_of_getElem? (i := 20) rfl))) (mvT hZ (hw _ (List.mem_of_getElem? (i := 21) rfl))) (notFace_of_selects (args := #[]) (mvT hZ (hw _ (List.mem_of_getElem? (i := 23) rfl)))) (mvT hZ (hw _ (List.mem_of_getElem? (i := 23) rfl))) (mvT hZ (hw _ (List.mem_of_getElem? (i := 22) rfl))) (by decide) (backOf (W := 0) (rm_isl1 l Z a0 hw [] x cz h0 n0 O0 E_x C_x SC hcz) hZ (hw _ (List.mem_of_getElem? (i := 24) rfl)) (hw _ (List.mem_of_getElem? (i := 6) rfl)) (by decide) (by decide)) q1a q1c (g := (mkF m 1 #[rv x, iv (58 : Int32), iv (5 : Int32)] [(.ref x)])) rfl (by rw [hml]; rfl) (argsL := []) (rest := []) (lenOf pd___Z rfl) rfl (by show 2 * 0 + _ ≤ _; exact Nat.le_of_eq rfl) (hb hby d17_1) rfl e0 (by decide) (by decide) (c' := 0) (s' := 0) rfl rfl
  clear q1a q1b q1c kq1 cq1
  obtain ⟨rfl, Nq1, eq1⟩ := hQ1
  have N1 := Fr.app N0 Nq1
  refine own_st (T' := T1) (g' := (mkF m 4 #[rv x, iv (58 : Int32), iv (5 : Int32)] [(.int (1 : Int32))])) st1 ?_
  clear st1
  refine own_st (T' := T1) (g' := (mkF m 7 #[rv x, iv (58 : Int32), iv (5 : Int32)] [])) (fun _ k_ => XS.ifNo X1.here hx rfl (hb hby d17_4) rfl ((if0 _ _).trans (feq (by decide : ¬ ((1 : Int32) = (0 : Int32)))).1) k_) ?_
  refine own_st (T' := T1) (g' := (mkF m 8 #[rv x, iv (58 : Int32), iv (5 : Int32)] [(.ref x)])) (fun _ k_ => XS.aloadN X1.here hx rfl (hb hby d17_7) rfl rfl  k_) ?_
  obtain ⟨T2, X2, e2, st2⟩ := getF X1 hx hZ hown (host := "") (Or.inl (hw _ (List.mem_of_getElem? (i := 27) rfl))) Via.refl eq1 V_x (g := (mkF m 8 #[rv x, iv (58 : Int32), iv (5 : Int32)] [(.ref x)])) rfl rfl (hb hby d17_8)
  refine own_st (T' := T2) (g' := (mkF m 11 #[rv x, iv (58 : Int32), iv (5 : Int32)] [(.ref t)])) st2 ?_
  clear st2
  refine own_st (T' := T2) (g' := (mkF m 12 #[rv x, iv (58 : Int32), iv (5 : Int32)] [(.int (58 : Int32)), (.ref t)])) (fun _ k_ => XS.iloadN X2.here hx rfl (hb hby d17_11) rfl  k_) ?_
  refine own_st (T' := T2) (g' := (mkF m 13 #[rv x, iv (58 : Int32), iv (5 : Int32)] [(.int (5 : Int32)), (.int (58 : Int32)), (.ref t)])) (fun _ k_ => XS.iloadN X2.here hx rfl (hb hby d17_12) rfl  k_) ?_
  obtain ⟨_, T3, L3, X3, hQ3, st3⟩ := own_callS X2 hx (y := own_m16) hown (mvT hZ (hw _ (List.mem_of_getElem? (i := 85) rfl))) (mvT hZ (hw _ (List.mem_of_getElem? (i := 86) rfl))) (mvT hZ (hw _ (List.mem_of_getElem? (i := 30) rfl))) (mvT hZ (hw _ (List.mem_of_getElem? (i := 87) rfl))) (by decide) (backOf (W := 0) (rm_li3 l Z a0 hw [] t kt y0 y1 y2 y3 y4 y5 h0 n0 O0 A_x) hZ (hw _ (List.mem_of_getElem? (i := 87) rfl)) (hw _ (List.mem_of_getElem? (i := 30) rfl)) (by decide) (by decide)) (g := (mkF m 13 #[rv x, iv (58 : Int32), iv (5 : Int32)] [(.int (5 : Int32)), (.int (58 : Int32)), (.ref t)])) rfl (by rw [hml]; rfl) (argsL := [(.ref t), (.int (58 : Int32)), (.int (5 : Int32))]) (rest := []) (lenOf pd___BII_I rfl) rfl (by show 2 * 0 + _ ≤ _; exact Nat.le_of_eq rfl) (hb hby d17_13) rfl e2 (by decide) (by decide) (c' := 0) (s' := 0) rfl rfl
  obtain ⟨rfl, Nq3, eq3⟩ := hQ3
  have N3 := Fr.app N1 Nq3
  refine own_st (T' := T3) (g' := (mkF m 16 #[rv x, iv (58 : Int32), iv (5 : Int32)] [(.int (own_la y0 y1 y2 y3 y4 y5))])) st3 ?_
  clear st3
  refine own_st (T' := T3) (g' := (mkF m 28 #[rv x, iv (58 : Int32), iv (5 : Int32)] [(.int (own_la y0 y1 y2 y3 y4 y5))])) (fun _ k_ => XS.goto X3.here hx rfl (pc0 := 16) (pc' := 28) rfl (hb hby d17_16) (by decide) (by decide) k_) ?_
  exact own_retI X3 hx hret hlk (hb hby d17_28) (by decide) (by decide) ⟨rfl, N3, eq3⟩
theorem d14_0 : decode jdk_42_method_82_code 0 = .ok (.aload_n 0, 1) := by decide +kernel
theorem d14_1 : decode jdk_42_method_82_code 1 = .ok (.iload_n 1, 1) := by decide +kernel
theorem d14_2 : decode jdk_42_method_82_code 2 = .ok (.aload_n 0, 1) := by decide +kernel
theorem d14_3 : decode jdk_42_method_82_code 3 = .ok (.invokevirtual 505, 3) := by decide +kernel
theorem d14_6 : decode jdk_42_method_82_code 6 = .ok (.iconst 1, 1) := by decide +kernel
theorem d14_7 : decode jdk_42_method_82_code 7 = .ok (.isub, 1) := by decide +kernel
theorem d14_8 : decode jdk_42_method_82_code 8 = .ok (.invokevirtual 641, 3) := by decide +kernel
theorem d14_11 : decode jdk_42_method_82_code 11 = .ok (.ireturn, 1) := by decide +kernel
theorem pd___I : parseMethodDescriptor "()I" = some ⟨[], some .int⟩ := by decide +kernel
theorem ef_li1 (m : MethodId) (x0 : Addr) (x1 : Int32) : entryFrame m #[(.ref x0), (.int x1)] 2 = mkF m 0 #[rv x0, iv x1] [] := by first | (simp [entryFrame, mkF, argsToLocals, Value.category]; done) | rfl
def Q_li1 (Z : State) (x : Addr) (t : Addr) (kt : ClassId) (y0 : Int32) (y1 : Int32) (y2 : Int32) (y3 : Int32) (y4 : Int32) (y5 : Int32) (cz : Int32) (h0 : Heap) (n0 : Nat) (v : Option Value) (h : Heap) (L : List Loc) : Prop := (v = some (.int (own_la y0 y1 y2 y3 y4 y5))) ∧ (Fr n0 L) ∧ (h = h0)
set_option maxRecDepth 65536 in
set_option maxHeartbeats 40000000 in
theorem rm_li1 (l : Launch) (Z : State) (a0 : Array Value) (hw : ∀ d ∈ tables_1, d.before a0 Z = true) (ws : List Jvm.Cond) (x : Addr) (t : Addr) (kt : ClassId) (y0 : Int32) (y1 : Int32) (y2 : Int32) (y3 : Int32) (y4 : Int32) (y5 : Int32) (cz : Int32) (h0 : Heap) (n0 : Nat) (O0 : Old Z n0 h0) (E_x : Exa Z h0 x "java/lang/String") (V_x : Fld Z h0 x "java/lang/String" "value" "[B" (.ref t)) (C_x : Fld Z h0 x "java/lang/String" "coder" "B" (.int (0 : Int32))) (A_x : Arv Z h0 t kt .byte (6 : Int32) [(.int (y0.toInt8.toInt32)), (.int (y1.toInt8.toInt32)), (.int (y2.toInt8.toInt32)), (.int (y3.toInt8.toInt32)), (.int (y4.toInt8.toInt32)), (.int (y5.toInt8.toInt32))] (.int (0 : Int32))) (SC : Sta Z Z.heap "java/lang/String" "COMPACT_STRINGS" "Z" (.int cz)) (hcz : ¬ cz = (0 : Int32)) :
    MetFree l own_m18 (head1 (Jvm.Cond.code own_m18 jdk_42_method_82_code 2 (some .int) :: ws) ({ frames := 3, cells := 0, slots := 0, locals := 42 } : Room)) (fun ar_ U => ar_ = #[(.ref x), (.int (58 : Int32))] ∧ Z.Warmed39 U.vm ∧ U.heap = h0) (fun _ _ _ _ _ => True) (fun _ U o U' => ∃ v L, o = .returned v ∧ Q_li1 Z x t kt y0 y1 y2 y3 y4 y5 cz h0 n0 v U'.heap L ∧ FrameEnd U o U' L ({ frames := 3, cells := 0, slots := 0, locals := 42 } : Room).cells ({ frames := 3, cells := 0, slots := 0, locals := 42 } : Room).slots) := by
  refine MetFree.of_bodySF (plainFor_of_name pn_1) hisR ?_
  intro p e s m args below meth c s₁ Bd hml0 hP hK
  obtain ⟨rfl, hZ, hh⟩ := hP
  have hx := Bd.exec
  have hby := Bd.bytes
  have hml : c.maxLocals = 2 := hml0
  have hown : s.vm.findClass "java/lang/String" = some m.cls := findClass_of_methodNamed Bd.named
  have hnm := (name_of_methodNamed Bd.named Bd.method).1
  have X0 : Stand p l e ({ frames := 3, cells := 0, slots := 0, locals := 42 } : Room) s m #[(.ref x), (.int (58 : Int32))] below meth c s₁ [] 0 0 := Stand.of_body Bd
  have e0 : s₁.heap = h0 := by rw [← hh, Bd.state]; rfl
  have N0 := Fr.nil n0
  have hret := Bd.returns
  have hlk : meth.locks = false := Bd.notSynchronized
  show own_E p e below s ({ frames := 3, cells := 0, slots := 0, locals := 42 } : Room).cells ({ frames := 3, cells := 0, slots := 0, locals := 42 } : Room).slots (Q_li1 Z x t kt y0 y1 y2 y3 y4 y5 cz h0 n0) s₁ (entryFrame m #[(.ref x), (.int (58 : Int32))] 2)
  rw [ef_li1 m x (58 : Int32)]
  refine own_st (T' := s₁) (g' := (mkF m 1 #[rv x, iv (58 : Int32)] [(.ref x)])) (fun _ k_ => XS.aloadN X0.here hx rfl (hb hby d14_0) rfl rfl  k_) ?_
  refine own_st (T' := s₁) (g' := (mkF m 2 #[rv x, iv (58 : Int32)] [(.int (58 : Int32)), (.ref x)])) (fun _ k_ => XS.iloadN X0.here hx rfl (hb hby d14_1) rfl  k_) ?_
  refine own_st (T' := s₁) (g' := (mkF m 3 #[rv x, iv (58 : Int32)] [(.ref x), (.int (58 : Int32)), (.ref x)])) (fun _ k_ => XS.aloadN X0.here hx rfl (hb hby d14_2) rfl rfl  k_) ?_
  obtain ⟨cq1, kq1, q1a, q1b, q1c⟩ := isOf hZ e0 E_x
  obtain ⟨_, T1, L1, X1, hQ1, st1⟩ := own_callV X0 hx (y := own_m6) (z := own_m6) hown (mvT hZ (hw _ (List.mem_of_getElem? (i := 70) rfl))) (mvT hZ (hw _ (List.mem_of_getElem? (i := 71) rfl))) (notFace_of_selects (args := #[]) (mvT hZ (hw _ (List.mem_of_getElem? (i := 73) rfl)))) (mvT hZ (hw _ (List.mem_of_getElem? (i := 73) rfl))) (mvT hZ (hw _ (List.mem_of_getElem? (i := 72) rfl))) (by decide) (backOf (W := 2) (rm_len l Z a0 hw [] x t kt (6 : Int32) [(.int (y0.toInt8.toInt32)), (.int (y1.toInt8.toInt32)), (.int (y2.toInt8.toInt32)), (.int (y3.toInt8.toInt32)), (.int (y4.toInt8.toInt32)), (.int (y5.toInt8.toInt32))] cz h0 n0 O0 E_x V_x C_x A_x SC hcz) hZ (hw _ (List.mem_of_getElem? (i := 74) rfl)) (hw _ (List.mem_of_getElem? (i := 6) rfl)) (by decide) (by decide)) q1a q1c (g := (mkF m 3 #[rv x, iv (58 : Int32)] [(.ref x), (.int (58 : Int32)), (.ref x)])) rfl (by rw [hml]; rfl) (argsL := []) (rest := [(.int (58 : Int32)), (.ref x)]) (lenOf pd___I rfl) rfl (by show 2 * 0 + _ ≤ _; exact Nat.le_of_eq rfl) (hb hby d14_3) rfl e0 (by decide) (by decide) (c' := 0) (s' := 0) rfl rfl
  clear q1a q1b q1c kq1 cq1
  obtain ⟨rfl, Nq1, eq1⟩ := hQ1
  have N1 := Fr.app N0 Nq1
  refine own_st (T' := T1) (g' := (mkF m 6 #[rv x, iv (58 : Int32)] [(.int (6 : Int32)), (.int (58 : Int32)), (.ref x)])) st1 ?_
  clear st1
  refine own_st (T' := T1) (g' := (mkF m 7 #[rv x, iv (58 : Int32)] [(.int (1 : Int32)), (.int (6 : Int32)), (.int (58 : Int32)), (.ref x)])) (fun _ k_ => XS.iconst X1.here hx rfl (hb hby d14_6) k_) ?_
  refine own_st (T' := T1) (g' := (mkF m 8 #[rv x, iv (58 : Int32)] [(.int (5 : Int32)), (.int (58 : Int32)), (.ref x)])) (fun _ k_ => XS.isub X1.here hx rfl (hb hby d14_7) rfl k_) ?_
  obtain ⟨cq2, kq2, q2a, q2b, q2c⟩ := isOf hZ eq1 E_x
  obtain ⟨_, T2, L2, X2, hQ2, st2⟩ := own_callV X1 hx (y := own_m17) (z := own_m17) hown (mvT hZ (hw _ (List.mem_of_getElem? (i := 80) rfl))) (mvT hZ (hw _ (List.mem_of_getElem? (i := 81) rfl))) (notFace_of_selects (args := #[]) (mvT hZ (hw _ (List.mem_of_getElem? (i := 83) rfl)))) (mvT hZ (hw _ (List.mem_of_getElem? (i := 83) rfl))) (mvT hZ (hw _ (List.mem_of_getElem? (i := 82) rfl))) (by decide) (backOf (W := 0) (rm_li2 l Z a0 hw [] x t kt y0 y1 y2 y3 y4 y5 cz h0 n0 O0 E_x V_x C_x A_x SC hcz) hZ (hw _ (List.mem_of_getElem? (i := 84) rfl)) (hw _ (List.mem_of_getElem? (i := 6) rfl)) (by decide) (by decide)) q2a q2c (g := (mkF m 8 #[rv x, iv (58 : Int32)] [(.int (5 : Int32)), (.int (58 : Int32)), (.ref x)])) rfl (by rw [hml]; rfl) (argsL := [(.int (58 : Int32)), (.int (5 : Int32))]) (rest := []) (lenOf pd__II_I rfl) rfl (by show 2 * 0 + _ ≤ _; exact Nat.le_of_eq rfl) (hb hby d14_8) rfl eq1 (by decide) (by decide) (c' := 0) (s' := 0) rfl rfl
  clear q2a q2b q2c kq2 cq2
  obtain ⟨rfl, Nq2, eq2⟩ := hQ2
  have N2 := Fr.app N1 Nq2
  refine own_st (T' := T2) (g' := (mkF m 11 #[rv x, iv (58 : Int32)] [(.int (own_la y0 y1 y2 y3 y4 y5))])) st2 ?_
  clear st2
  exact own_retI X2 hx hret hlk (hb hby d14_11) (by decide) (by decide) ⟨rfl, N2, eq2⟩
theorem own_lam (c0 c1 c2 c3 c4 c5 : Int32) (hn0 : ¬ (c0.toInt8.toInt32) = ((58 : Int32).toInt8.toInt32)) (hn1 : ¬ (c1.toInt8.toInt32) = ((58 : Int32).toInt8.toInt32)) (hn2 : ¬ (c2.toInt8.toInt32) = ((58 : Int32).toInt8.toInt32)) (hn3 : ¬ (c3.toInt8.toInt32) = ((58 : Int32).toInt8.toInt32)) (hn4 : ¬ (c4.toInt8.toInt32) = ((58 : Int32).toInt8.toInt32)) (hn5 : ¬ (c5.toInt8.toInt32) = ((58 : Int32).toInt8.toInt32)) : own_la c0 c1 c2 c3 c4 c5 = -1 := by unfold own_la; rw [if_neg hn5, if_neg hn4, if_neg hn3, if_neg hn2, if_neg hn1, if_neg hn0]
theorem d22_0 : decode jdk_42_method_92_code 0 = .ok (.aload_n 0, 1) := by decide +kernel
theorem d22_1 : decode jdk_42_method_92_code 1 = .ok (.invokevirtual 505, 3) := by decide +kernel
theorem d22_4 : decode jdk_42_method_92_code 4 = .ok (.istore_n 3, 1) := by decide +kernel
theorem d22_5 : decode jdk_42_method_92_code 5 = .ok (.iload_n 1, 1) := by decide +kernel
theorem d22_6 : decode jdk_42_method_92_code 6 = .ok (.iload_n 2, 1) := by decide +kernel
theorem d22_7 : decode jdk_42_method_92_code 7 = .ok (.iload_n 3, 1) := by decide +kernel
theorem d22_8 : decode jdk_42_method_92_code 8 = .ok (.invokestatic 521, 3) := by decide +kernel
theorem d22_11 : decode jdk_42_method_92_code 11 = .ok (.iload_n 1, 1) := by decide +kernel
theorem d22_12 : decode jdk_42_method_92_code 12 = .ok (.ifCond .ne 10, 3) := by decide +kernel
theorem d22_15 : decode jdk_42_method_92_code 15 = .ok (.iload_n 2, 1) := by decide +kernel
theorem d22_16 : decode jdk_42_method_92_code 16 = .ok (.iload_n 3, 1) := by decide +kernel
theorem d22_17 : decode jdk_42_method_92_code 17 = .ok (.if_icmp .ne 5, 3) := by decide +kernel
theorem d22_20 : decode jdk_42_method_92_code 20 = .ok (.aload_n 0, 1) := by decide +kernel
theorem d22_21 : decode jdk_42_method_92_code 21 = .ok (.areturn, 1) := by decide +kernel
theorem pd__III_V : parseMethodDescriptor "(III)V" = some ⟨[.int, .int, .int], none⟩ := by decide +kernel
theorem ef_sub_m (m : MethodId) (x0 : Addr) (x1 : Int32) (x2 : Int32) : entryFrame m #[(.ref x0), (.int x1), (.int x2)] 5 = mkF m 0 #[rv x0, iv x1, iv x2, .unset, .unset] [] := by first | (simp [entryFrame, mkF, argsToLocals, Value.category]; done) | rfl
def Q_sub_m (Z : State) (x : Addr) (t : Addr) (kt : ClassId) (c0 : Int32) (c1 : Int32) (c2 : Int32) (c3 : Int32) (c4 : Int32) (c5 : Int32) (cz : Int32) (fm : Value) (h0 : Heap) (n0 : Nat) (v : Option Value) (h : Heap) (L : List Loc) : Prop := (v = some (.ref x)) ∧ (Fr n0 L) ∧ (h = h0)
set_option maxRecDepth 65536 in
set_option maxHeartbeats 40000000 in
theorem rm_sub_m (l : Launch) (Z : State) (a0 : Array Value) (hw : ∀ d ∈ tables_1, d.before a0 Z = true) (ws : List Jvm.Cond) (x : Addr) (t : Addr) (kt : ClassId) (c0 : Int32) (c1 : Int32) (c2 : Int32) (c3 : Int32) (c4 : Int32) (c5 : Int32) (cz : Int32) (fm : Value) (h0 : Heap) (n0 : Nat) (O0 : Old Z n0 h0) (E_x : Exa Z h0 x "java/lang/String") (V_x : Fld Z h0 x "java/lang/String" "value" "[B" (.ref t)) (C_x : Fld Z h0 x "java/lang/String" "coder" "B" (.int (0 : Int32))) (A_x : Arv Z h0 t kt .byte (6 : Int32) [(.int (c0.toInt8.toInt32)), (.int (c1.toInt8.toInt32)), (.int (c2.toInt8.toInt32)), (.int (c3.toInt8.toInt32)), (.int (c4.toInt8.toInt32)), (.int (c5.toInt8.toInt32))] (.int (0 : Int32))) (SC : Sta Z Z.heap "java/lang/String" "COMPACT_STRINGS" "Z" (.int cz)) (hcz : ¬ cz = (0 : Int32)) (SF : Sta Z Z.heap "jdk/internal/util/Preconditions" "SIOOBE_FORMATTER" "Ljava/util/function/BiFunction;" fm) (hfm : fm.isRef = true) :
    MetFree l own_m19 (head1 (Jvm.Cond.code own_m19 jdk_42_method_92_code 5 (some (.object "java/lang/String")) :: ws) ({ frames := 2, cells := 0, slots := 0, locals := 29 } : Room)) (fun ar_ U => ar_ = #[(.ref x), (.int (0 : Int32)), (.int (6 : Int32))] ∧ Z.Warmed39 U.vm ∧ U.heap = h0) (fun _ _ _ _ _ => True) (fun _ U o U' => ∃ v L, o = .returned v ∧ Q_sub_m Z x t kt c0 c1 c2 c3 c4 c5 cz fm h0 n0 v U'.heap L ∧ FrameEnd U o U' L ({ frames := 2, cells := 0, slots := 0, locals := 29 } : Room).cells ({ frames := 2, cells := 0, slots := 0, locals := 29 } : Room).slots) := by
  refine MetFree.of_bodySF (plainFor_of_name pn_1) hisR ?_
  intro p e s m args below meth c s₁ Bd hml0 hP hK
  obtain ⟨rfl, hZ, hh⟩ := hP
  have hx := Bd.exec
  have hby := Bd.bytes
  have hml : c.maxLocals = 5 := hml0
  have hown : s.vm.findClass "java/lang/String" = some m.cls := findClass_of_methodNamed Bd.named
  have hnm := (name_of_methodNamed Bd.named Bd.method).1
  have X0 : Stand p l e ({ frames := 2, cells := 0, slots := 0, locals := 29 } : Room) s m #[(.ref x), (.int (0 : Int32)), (.int (6 : Int32))] below meth c s₁ [] 0 0 := Stand.of_body Bd
  have e0 : s₁.heap = h0 := by rw [← hh, Bd.state]; rfl
  have N0 := Fr.nil n0
  have hret := Bd.returns
  have hlk : meth.locks = false := Bd.notSynchronized
  show own_E p e below s ({ frames := 2, cells := 0, slots := 0, locals := 29 } : Room).cells ({ frames := 2, cells := 0, slots := 0, locals := 29 } : Room).slots (Q_sub_m Z x t kt c0 c1 c2 c3 c4 c5 cz fm h0 n0) s₁ (entryFrame m #[(.ref x), (.int (0 : Int32)), (.int (6 : Int32))] 5)
  rw [ef_sub_m m x (0 : Int32) (6 : Int32)]
  refine own_st (T' := s₁) (g' := (mkF m 1 #[rv x, iv (0 : Int32), iv (6 : Int32), .unset, .unset] [(.ref x)])) (fun _ k_ => XS.aloadN X0.here hx rfl (hb hby d22_0) rfl rfl  k_) ?_
  obtain ⟨cq1, kq1, q1a, q1b, q1c⟩ := isOf hZ e0 E_x
  obtain ⟨_, T1, L1, X1, hQ1, st1⟩ := own_callV X0 hx (y := own_m6) (z := own_m6) hown (mvT hZ (hw _ (List.mem_of_getElem? (i := 70) rfl))) (mvT hZ (hw _ (List.mem_of_getElem? (i := 71) rfl))) (notFace_of_selects (args := #[]) (mvT hZ (hw _ (List.mem_of_getElem? (i := 73) rfl)))) (mvT hZ (hw _ (List.mem_of_getElem? (i := 73) rfl))) (mvT hZ (hw _ (List.mem_of_getElem? (i := 72) rfl))) (by decide) (backOf (W := 0) (rm_len l Z a0 hw [] x t kt (6 : Int32) [(.int (c0.toInt8.toInt32)), (.int (c1.toInt8.toInt32)), (.int (c2.toInt8.toInt32)), (.int (c3.toInt8.toInt32)), (.int (c4.toInt8.toInt32)), (.int (c5.toInt8.toInt32))] cz h0 n0 O0 E_x V_x C_x A_x SC hcz) hZ (hw _ (List.mem_of_getElem? (i := 74) rfl)) (hw _ (List.mem_of_getElem? (i := 6) rfl)) (by decide) (by decide)) q1a q1c (g := (mkF m 1 #[rv x, iv (0 : Int32), iv (6 : Int32), .unset, .unset] [(.ref x)])) rfl (by rw [hml]; rfl) (argsL := []) (rest := []) (lenOf pd___I rfl) rfl (by show 2 * 0 + _ ≤ _; exact Nat.le_of_eq rfl) (hb hby d22_1) rfl e0 (by decide) (by decide) (c' := 0) (s' := 0) rfl rfl
  clear q1a q1b q1c kq1 cq1
  obtain ⟨rfl, Nq1, eq1⟩ := hQ1
  have N1 := Fr.app N0 Nq1
  refine own_st (T' := T1) (g' := (mkF m 4 #[rv x, iv (0 : Int32), iv (6 : Int32), .unset, .unset] [(.int (6 : Int32))])) st1 ?_
  clear st1
  refine own_st (T' := T1) (g' := (mkF m 5 #[rv x, iv (0 : Int32), iv (6 : Int32), iv (6 : Int32), .unset] [])) (fun _ k_ => XS.istoreN X1.here hx rfl (hb hby d22_4) rfl (l' := #[rv x, iv (0 : Int32), iv (6 : Int32), iv (6 : Int32), .unset]) rfl k_) ?_
  refine own_st (T' := T1) (g' := (mkF m 6 #[rv x, iv (0 : Int32), iv (6 : Int32), iv (6 : Int32), .unset] [(.int (0 : Int32))])) (fun _ k_ => XS.iloadN X1.here hx rfl (hb hby d22_5) rfl  k_) ?_
  refine own_st (T' := T1) (g' := (mkF m 7 #[rv x, iv (0 : Int32), iv (6 : Int32), iv (6 : Int32), .unset] [(.int (6 : Int32)), (.int (0 : Int32))])) (fun _ k_ => XS.iloadN X1.here hx rfl (hb hby d22_6) rfl  k_) ?_
  refine own_st (T' := T1) (g' := (mkF m 8 #[rv x, iv (0 : Int32), iv (6 : Int32), iv (6 : Int32), .unset] [(.int (6 : Int32)), (.int (6 : Int32)), (.int (0 : Int32))])) (fun _ k_ => XS.iloadN X1.here hx rfl (hb hby d22_7) rfl  k_) ?_
  obtain ⟨_, T2, L2, X2, hQ2, st2⟩ := own_callS X1 hx (y := own_m10) hown (mvT hZ (hw _ (List.mem_of_getElem? (i := 105) rfl))) (mvT hZ (hw _ (List.mem_of_getElem? (i := 106) rfl))) (mvT hZ (hw _ (List.mem_of_getElem? (i := 6) rfl))) (mvT hZ (hw _ (List.mem_of_getElem? (i := 107) rfl))) (by decide) (backOf (W := 0) (rm_cbe l Z a0 hw [] (0 : Int32) (6 : Int32) (6 : Int32) fm h0 n0 O0 (by decide) (by decide) (by decide) SF hfm) hZ (hw _ (List.mem_of_getElem? (i := 107) rfl)) (hw _ (List.mem_of_getElem? (i := 6) rfl)) (by decide) (by decide)) (g := (mkF m 8 #[rv x, iv (0 : Int32), iv (6 : Int32), iv (6 : Int32), .unset] [(.int (6 : Int32)), (.int (6 : Int32)), (.int (0 : Int32))])) rfl (by rw [hml]; rfl) (argsL := [(.int (0 : Int32)), (.int (6 : Int32)), (.int (6 : Int32))]) (rest := []) (lenOf pd__III_V rfl) rfl (by show 2 * 0 + _ ≤ _; exact Nat.le_of_eq rfl) (hb hby d22_8) rfl eq1 (by decide) (by decide) (c' := 0) (s' := 0) rfl rfl
  obtain ⟨rfl, Nq2, eq2⟩ := hQ2
  have N2 := Fr.app N1 Nq2
  refine own_st (T' := T2) (g' := (mkF m 11 #[rv x, iv (0 : Int32), iv (6 : Int32), iv (6 : Int32), .unset] [])) st2 ?_
  clear st2
  refine own_st (T' := T2) (g' := (mkF m 12 #[rv x, iv (0 : Int32), iv (6 : Int32), iv (6 : Int32), .unset] [(.int (0 : Int32))])) (fun _ k_ => XS.iloadN X2.here hx rfl (hb hby d22_11) rfl  k_) ?_
  refine own_st (T' := T2) (g' := (mkF m 15 #[rv x, iv (0 : Int32), iv (6 : Int32), iv (6 : Int32), .unset] [])) (fun _ k_ => XS.ifNo X2.here hx rfl (hb hby d22_12) rfl ((if0 _ _).trans (teq (rfl : (0 : Int32) = (0 : Int32))).2) k_) ?_
  refine own_st (T' := T2) (g' := (mkF m 16 #[rv x, iv (0 : Int32), iv (6 : Int32), iv (6 : Int32), .unset] [(.int (6 : Int32))])) (fun _ k_ => XS.iloadN X2.here hx rfl (hb hby d22_15) rfl  k_) ?_
  refine own_st (T' := T2) (g' := (mkF m 17 #[rv x, iv (0 : Int32), iv (6 : Int32), iv (6 : Int32), .unset] [(.int (6 : Int32)), (.int (6 : Int32))])) (fun _ k_ => XS.iloadN X2.here hx rfl (hb hby d22_16) rfl  k_) ?_
  refine own_st (T' := T2) (g' := (mkF m 20 #[rv x, iv (0 : Int32), iv (6 : Int32), iv (6 : Int32), .unset] [])) (fun _ k_ => XS.icmpNo X2.here hx rfl (hb hby d22_17) rfl (teq (rfl : (6 : Int32) = (6 : Int32))).2 k_) ?_
  refine own_st (T' := T2) (g' := (mkF m 21 #[rv x, iv (0 : Int32), iv (6 : Int32), iv (6 : Int32), .unset] [(.ref x)])) (fun _ k_ => XS.aloadN X2.here hx rfl (hb hby d22_20) rfl rfl  k_) ?_
  exact own_retA X2 hx hret rfl rfl hlk (hb hby d22_21) (by decide) (by decide) ⟨rfl, N2, eq2⟩
theorem d21_0 : decode jdk_42_method_91_code 0 = .ok (.aload_n 0, 1) := by decide +kernel
theorem d21_1 : decode jdk_42_method_91_code 1 = .ok (.iload_n 1, 1) := by decide +kernel
theorem d21_2 : decode jdk_42_method_91_code 2 = .ok (.aload_n 0, 1) := by decide +kernel
theorem d21_3 : decode jdk_42_method_91_code 3 = .ok (.invokevirtual 505, 3) := by decide +kernel
theorem d21_6 : decode jdk_42_method_91_code 6 = .ok (.invokevirtual 681, 3) := by decide +kernel
theorem d21_9 : decode jdk_42_method_91_code 9 = .ok (.areturn, 1) := by decide +kernel
theorem pd__II_Ljava_lang_String_ : parseMethodDescriptor "(II)Ljava/lang/String;" = some ⟨[.int, .int], some (.object "java/lang/String")⟩ := by decide +kernel
theorem ef_su1_m (m : MethodId) (x0 : Addr) (x1 : Int32) : entryFrame m #[(.ref x0), (.int x1)] 2 = mkF m 0 #[rv x0, iv x1] [] := by first | (simp [entryFrame, mkF, argsToLocals, Value.category]; done) | rfl
def Q_su1_m (Z : State) (x : Addr) (t : Addr) (kt : ClassId) (c0 : Int32) (c1 : Int32) (c2 : Int32) (c3 : Int32) (c4 : Int32) (c5 : Int32) (cz : Int32) (fm : Value) (h0 : Heap) (n0 : Nat) (v : Option Value) (h : Heap) (L : List Loc) : Prop := (v = some (.ref x)) ∧ (Fr n0 L) ∧ (h = h0)
set_option maxRecDepth 65536 in
set_option maxHeartbeats 40000000 in
theorem rm_su1_m (l : Launch) (Z : State) (a0 : Array Value) (hw : ∀ d ∈ tables_1, d.before a0 Z = true) (ws : List Jvm.Cond) (x : Addr) (t : Addr) (kt : ClassId) (c0 : Int32) (c1 : Int32) (c2 : Int32) (c3 : Int32) (c4 : Int32) (c5 : Int32) (cz : Int32) (fm : Value) (h0 : Heap) (n0 : Nat) (O0 : Old Z n0 h0) (E_x : Exa Z h0 x "java/lang/String") (V_x : Fld Z h0 x "java/lang/String" "value" "[B" (.ref t)) (C_x : Fld Z h0 x "java/lang/String" "coder" "B" (.int (0 : Int32))) (A_x : Arv Z h0 t kt .byte (6 : Int32) [(.int (c0.toInt8.toInt32)), (.int (c1.toInt8.toInt32)), (.int (c2.toInt8.toInt32)), (.int (c3.toInt8.toInt32)), (.int (c4.toInt8.toInt32)), (.int (c5.toInt8.toInt32))] (.int (0 : Int32))) (SC : Sta Z Z.heap "java/lang/String" "COMPACT_STRINGS" "Z" (.int cz)) (hcz : ¬ cz = (0 : Int32)) (SF : Sta Z Z.heap "jdk/internal/util/Preconditions" "SIOOBE_FORMATTER" "Ljava/util/function/BiFunction;" fm) (hfm : fm.isRef = true) :
    MetFree l own_m20 (head1 (Jvm.Cond.code own_m20 jdk_42_method_91_code 2 (some (.object "java/lang/String")) :: ws) ({ frames := 3, cells := 0, slots := 0, locals := 45 } : Room)) (fun ar_ U => ar_ = #[(.ref x), (.int (0 : Int32))] ∧ Z.Warmed39 U.vm ∧ U.heap = h0) (fun _ _ _ _ _ => True) (fun _ U o U' => ∃ v L, o = .returned v ∧ Q_su1_m Z x t kt c0 c1 c2 c3 c4 c5 cz fm h0 n0 v U'.heap L ∧ FrameEnd U o U' L ({ frames := 3, cells := 0, slots := 0, locals := 45 } : Room).cells ({ frames := 3, cells := 0, slots := 0, locals := 45 } : Room).slots) := by
  refine MetFree.of_bodySF (plainFor_of_name pn_1) hisR ?_
  intro p e s m args below meth c s₁ Bd hml0 hP hK
  obtain ⟨rfl, hZ, hh⟩ := hP
  have hx := Bd.exec
  have hby := Bd.bytes
  have hml : c.maxLocals = 2 := hml0
  have hown : s.vm.findClass "java/lang/String" = some m.cls := findClass_of_methodNamed Bd.named
  have hnm := (name_of_methodNamed Bd.named Bd.method).1
  have X0 : Stand p l e ({ frames := 3, cells := 0, slots := 0, locals := 45 } : Room) s m #[(.ref x), (.int (0 : Int32))] below meth c s₁ [] 0 0 := Stand.of_body Bd
  have e0 : s₁.heap = h0 := by rw [← hh, Bd.state]; rfl
  have N0 := Fr.nil n0
  have hret := Bd.returns
  have hlk : meth.locks = false := Bd.notSynchronized
  show own_E p e below s ({ frames := 3, cells := 0, slots := 0, locals := 45 } : Room).cells ({ frames := 3, cells := 0, slots := 0, locals := 45 } : Room).slots (Q_su1_m Z x t kt c0 c1 c2 c3 c4 c5 cz fm h0 n0) s₁ (entryFrame m #[(.ref x), (.int (0 : Int32))] 2)
  rw [ef_su1_m m x (0 : Int32)]
  refine own_st (T' := s₁) (g' := (mkF m 1 #[rv x, iv (0 : Int32)] [(.ref x)])) (fun _ k_ => XS.aloadN X0.here hx rfl (hb hby d21_0) rfl rfl  k_) ?_
  refine own_st (T' := s₁) (g' := (mkF m 2 #[rv x, iv (0 : Int32)] [(.int (0 : Int32)), (.ref x)])) (fun _ k_ => XS.iloadN X0.here hx rfl (hb hby d21_1) rfl  k_) ?_
  refine own_st (T' := s₁) (g' := (mkF m 3 #[rv x, iv (0 : Int32)] [(.ref x), (.int (0 : Int32)), (.ref x)])) (fun _ k_ => XS.aloadN X0.here hx rfl (hb hby d21_2) rfl rfl  k_) ?_
  obtain ⟨cq1, kq1, q1a, q1b, q1c⟩ := isOf hZ e0 E_x
  obtain ⟨_, T1, L1, X1, hQ1, st1⟩ := own_callV X0 hx (y := own_m6) (z := own_m6) hown (mvT hZ (hw _ (List.mem_of_getElem? (i := 70) rfl))) (mvT hZ (hw _ (List.mem_of_getElem? (i := 71) rfl))) (notFace_of_selects (args := #[]) (mvT hZ (hw _ (List.mem_of_getElem? (i := 73) rfl)))) (mvT hZ (hw _ (List.mem_of_getElem? (i := 73) rfl))) (mvT hZ (hw _ (List.mem_of_getElem? (i := 72) rfl))) (by decide) (backOf (W := 2) (rm_len l Z a0 hw [] x t kt (6 : Int32) [(.int (c0.toInt8.toInt32)), (.int (c1.toInt8.toInt32)), (.int (c2.toInt8.toInt32)), (.int (c3.toInt8.toInt32)), (.int (c4.toInt8.toInt32)), (.int (c5.toInt8.toInt32))] cz h0 n0 O0 E_x V_x C_x A_x SC hcz) hZ (hw _ (List.mem_of_getElem? (i := 74) rfl)) (hw _ (List.mem_of_getElem? (i := 6) rfl)) (by decide) (by decide)) q1a q1c (g := (mkF m 3 #[rv x, iv (0 : Int32)] [(.ref x), (.int (0 : Int32)), (.ref x)])) rfl (by rw [hml]; rfl) (argsL := []) (rest := [(.int (0 : Int32)), (.ref x)]) (lenOf pd___I rfl) rfl (by show 2 * 0 + _ ≤ _; exact Nat.le_of_eq rfl) (hb hby d21_3) rfl e0 (by decide) (by decide) (c' := 0) (s' := 0) rfl rfl
  clear q1a q1b q1c kq1 cq1
  obtain ⟨rfl, Nq1, eq1⟩ := hQ1
  have N1 := Fr.app N0 Nq1
  refine own_st (T' := T1) (g' := (mkF m 6 #[rv x, iv (0 : Int32)] [(.int (6 : Int32)), (.int (0 : Int32)), (.ref x)])) st1 ?_
  clear st1
  obtain ⟨cq2, kq2, q2a, q2b, q2c⟩ := isOf hZ eq1 E_x
  obtain ⟨_, T2, L2, X2, hQ2, st2⟩ := own_callV X1 hx (y := own_m19) (z := own_m19) hown (mvT hZ (hw _ (List.mem_of_getElem? (i := 100) rfl))) (mvT hZ (hw _ (List.mem_of_getElem? (i := 101) rfl))) (notFace_of_selects (args := #[]) (mvT hZ (hw _ (List.mem_of_getElem? (i := 103) rfl)))) (mvT hZ (hw _ (List.mem_of_getElem? (i := 103) rfl))) (mvT hZ (hw _ (List.mem_of_getElem? (i := 102) rfl))) (by decide) (backOf (W := 0) (rm_sub_m l Z a0 hw [] x t kt c0 c1 c2 c3 c4 c5 cz fm h0 n0 O0 E_x V_x C_x A_x SC hcz SF hfm) hZ (hw _ (List.mem_of_getElem? (i := 104) rfl)) (hw _ (List.mem_of_getElem? (i := 6) rfl)) (by decide) (by decide)) q2a q2c (g := (mkF m 6 #[rv x, iv (0 : Int32)] [(.int (6 : Int32)), (.int (0 : Int32)), (.ref x)])) rfl (by rw [hml]; rfl) (argsL := [(.int (0 : Int32)), (.int (6 : Int32))]) (rest := []) (lenOf pd__II_Ljava_lang_String_ rfl) rfl (by show 2 * 0 + _ ≤ _; exact Nat.le_of_eq rfl) (hb hby d21_6) rfl eq1 (by decide) (by decide) (c' := 0) (s' := 0) rfl rfl
  clear q2a q2b q2c kq2 cq2
  obtain ⟨rfl, Nq2, eq2⟩ := hQ2
  have N2 := Fr.app N1 Nq2
  refine own_st (T' := T2) (g' := (mkF m 9 #[rv x, iv (0 : Int32)] [(.ref x)])) st2 ?_
  clear st2
  exact own_retA X2 hx hret rfl rfl hlk (hb hby d21_9) (by decide) (by decide) ⟨rfl, N2, eq2⟩
theorem d13_0 : decode prog_26_method_7_code 0 = .ok (.aload_n 0, 1) := by decide +kernel
theorem d13_1 : decode prog_26_method_7_code 1 = .ok (.aload_n 0, 1) := by decide +kernel
theorem d13_2 : decode prog_26_method_7_code 2 = .ok (.bipush 58, 2) := by decide +kernel
theorem d13_4 : decode prog_26_method_7_code 4 = .ok (.invokevirtual 67, 3) := by decide +kernel
theorem d13_7 : decode prog_26_method_7_code 7 = .ok (.iconst 1, 1) := by decide +kernel
theorem d13_8 : decode prog_26_method_7_code 8 = .ok (.iadd, 1) := by decide +kernel
theorem d13_9 : decode prog_26_method_7_code 9 = .ok (.invokevirtual 70, 3) := by decide +kernel
theorem d13_12 : decode prog_26_method_7_code 12 = .ok (.areturn, 1) := by decide +kernel
theorem pd__I_I : parseMethodDescriptor "(I)I" = some ⟨[.int], some .int⟩ := by decide +kernel
theorem pd__I_Ljava_lang_String_ : parseMethodDescriptor "(I)Ljava/lang/String;" = some ⟨[.int], some (.object "java/lang/String")⟩ := by decide +kernel
theorem pn_6 : plainName "com/example/sheafgate/sheafgate/store/SetSpecs" = true := by first | (simp [plainName, overriddenIn]; done) | decide +kernel
theorem ef_lp_m (m : MethodId) (x0 : Addr) : entryFrame m #[(.ref x0)] 1 = mkF m 0 #[rv x0] [] := by first | (simp [entryFrame, mkF, argsToLocals, Value.category]; done) | rfl
def Q_lp_m (Z : State) (x : Addr) (t : Addr) (kt : ClassId) (c0 : Int32) (c1 : Int32) (c2 : Int32) (c3 : Int32) (c4 : Int32) (c5 : Int32) (cz : Int32) (fm : Value) (h0 : Heap) (n0 : Nat) (v : Option Value) (h : Heap) (L : List Loc) : Prop := (v = some (.ref x)) ∧ (Fr n0 L) ∧ (h = h0)
set_option maxRecDepth 65536 in
set_option maxHeartbeats 40000000 in
theorem rm_lp_m (l : Launch) (Z : State) (a0 : Array Value) (hw : ∀ d ∈ tables_1, d.before a0 Z = true) (ws : List Jvm.Cond) (x : Addr) (t : Addr) (kt : ClassId) (c0 : Int32) (c1 : Int32) (c2 : Int32) (c3 : Int32) (c4 : Int32) (c5 : Int32) (cz : Int32) (fm : Value) (h0 : Heap) (n0 : Nat) (O0 : Old Z n0 h0) (E_x : Exa Z h0 x "java/lang/String") (V_x : Fld Z h0 x "java/lang/String" "value" "[B" (.ref t)) (C_x : Fld Z h0 x "java/lang/String" "coder" "B" (.int (0 : Int32))) (A_x : Arv Z h0 t kt .byte (6 : Int32) [(.int (c0.toInt8.toInt32)), (.int (c1.toInt8.toInt32)), (.int (c2.toInt8.toInt32)), (.int (c3.toInt8.toInt32)), (.int (c4.toInt8.toInt32)), (.int (c5.toInt8.toInt32))] (.int (0 : Int32))) (hn0 : ¬ (c0.toInt8.toInt32) = ((58 : Int32).toInt8.toInt32)) (hn1 : ¬ (c1.toInt8.toInt32) = ((58 : Int32).toInt8.toInt32)) (hn2 : ¬ (c2.toInt8.toInt32) = ((58 : Int32).toInt8.toInt32)) (hn3 : ¬ (c3.toInt8.toInt32) = ((58 : Int32).toInt8.toInt32)) (hn4 : ¬ (c4.toInt8.toInt32) = ((58 : Int32).toInt8.toInt32)) (hn5 : ¬ (c5.toInt8.toInt32) = ((58 : Int32).toInt8.toInt32)) (SC : Sta Z Z.heap "java/lang/String" "COMPACT_STRINGS" "Z" (.int cz)) (hcz : ¬ cz = (0 : Int32)) (SF : Sta Z Z.heap "jdk/internal/util/Preconditions" "SIOOBE_FORMATTER" "Ljava/util/function/BiFunction;" fm) (hfm : fm.isRef = true) :
    MetFree l own_m21 (head1 (Jvm.Cond.code own_m21 prog_26_method_7_code 1 (some (.object "java/lang/String")) :: ws) ({ frames := 4, cells := 0, slots := 0, locals := 58 } : Room)) (fun ar_ U => ar_ = #[(.ref x)] ∧ Z.Warmed39 U.vm ∧ U.heap = h0) (fun _ _ _ _ _ => True) (fun _ U o U' => ∃ v L, o = .returned v ∧ Q_lp_m Z x t kt c0 c1 c2 c3 c4 c5 cz fm h0 n0 v U'.heap L ∧ FrameEnd U o U' L ({ frames := 4, cells := 0, slots := 0, locals := 58 } : Room).cells ({ frames := 4, cells := 0, slots := 0, locals := 58 } : Room).slots) := by
  refine MetFree.of_bodySF (plainFor_of_name pn_6) hisR ?_
  intro p e s m args below meth c s₁ Bd hml0 hP hK
  obtain ⟨rfl, hZ, hh⟩ := hP
  have hx := Bd.exec
  have hby := Bd.bytes
  have hml : c.maxLocals = 1 := hml0
  have hown : s.vm.findClass "com/example/sheafgate/sheafgate/store/SetSpecs" = some m.cls := findClass_of_methodNamed Bd.named
  have hnm := (name_of_methodNamed Bd.named Bd.method).1
  have X0 : Stand p l e ({ frames := 4, cells := 0, slots := 0, locals := 58 } : Room) s m #[(.ref x)] below meth c s₁ [] 0 0 := Stand.of_body Bd
  have e0 : s₁.heap = h0 := by rw [← hh, Bd.state]; rfl
  have N0 := Fr.nil n0
  have hret := Bd.returns
  have hlk : meth.locks = false := Bd.notSynchronized
  show own_E p e below s ({ frames := 4, cells := 0, slots := 0, locals := 58 } : Room).cells ({ frames := 4, cells := 0, slots := 0, locals := 58 } : Room).slots (Q_lp_m Z x t kt c0 c1 c2 c3 c4 c5 cz fm h0 n0) s₁ (entryFrame m #[(.ref x)] 1)
  rw [ef_lp_m m x]
  refine own_st (T' := s₁) (g' := (mkF m 1 #[rv x] [(.ref x)])) (fun _ k_ => XS.aloadN X0.here hx rfl (hb hby d13_0) rfl rfl  k_) ?_
  refine own_st (T' := s₁) (g' := (mkF m 2 #[rv x] [(.ref x), (.ref x)])) (fun _ k_ => XS.aloadN X0.here hx rfl (hb hby d13_1) rfl rfl  k_) ?_
  refine own_st (T' := s₁) (g' := (mkF m 4 #[rv x] [(.int (58 : Int32)), (.ref x), (.ref x)])) (fun _ k_ => XS.bipush X0.here hx rfl (hb hby d13_2) k_) ?_
  obtain ⟨cq1, kq1, q1a, q1b, q1c⟩ := isOf hZ e0 E_x
  obtain ⟨_, T1, L1, X1, hQ1, st1⟩ := own_callV X0 hx (y := own_m18) (z := own_m18) hown (mvT hZ (hw _ (List.mem_of_getElem? (i := 65) rfl))) (mvT hZ (hw _ (List.mem_of_getElem? (i := 66) rfl))) (notFace_of_selects (args := #[]) (mvT hZ (hw _ (List.mem_of_getElem? (i := 68) rfl)))) (mvT hZ (hw _ (List.mem_of_getElem? (i := 68) rfl))) (mvT hZ (hw _ (List.mem_of_getElem? (i := 67) rfl))) (by decide) (backOf (W := 1) (rm_li1 l Z a0 hw [] x t kt c0 c1 c2 c3 c4 c5 cz h0 n0 O0 E_x V_x C_x A_x SC hcz) hZ (hw _ (List.mem_of_getElem? (i := 69) rfl)) (hw _ (List.mem_of_getElem? (i := 6) rfl)) (by decide) (by decide)) q1a q1c (g := (mkF m 4 #[rv x] [(.int (58 : Int32)), (.ref x), (.ref x)])) rfl (by rw [hml]; rfl) (argsL := [(.int (58 : Int32))]) (rest := [(.ref x)]) (lenOf pd__I_I rfl) rfl (by show 2 * 0 + _ ≤ _; exact Nat.le_of_eq rfl) (hb hby d13_4) rfl e0 (by decide) (by decide) (c' := 0) (s' := 0) rfl rfl
  clear q1a q1b q1c kq1 cq1
  obtain ⟨rfl, Nq1, eq1⟩ := hQ1
  have N1 := Fr.app N0 Nq1
  refine own_st (T' := T1) (g' := (mkF m 7 #[rv x] [(.int (own_la c0 c1 c2 c3 c4 c5)), (.ref x)])) st1 ?_
  clear st1
  rw [own_lam c0 c1 c2 c3 c4 c5 hn0 hn1 hn2 hn3 hn4 hn5]
  refine own_st (T' := T1) (g' := (mkF m 8 #[rv x] [(.int (1 : Int32)), (.int (-1 : Int32)), (.ref x)])) (fun _ k_ => XS.iconst X1.here hx rfl (hb hby d13_7) k_) ?_
  refine own_st (T' := T1) (g' := (mkF m 9 #[rv x] [(.int (0 : Int32)), (.ref x)])) (fun _ k_ => XS.iadd X1.here hx rfl (hb hby d13_8) rfl k_) ?_
  obtain ⟨cq2, kq2, q2a, q2b, q2c⟩ := isOf hZ eq1 E_x
  obtain ⟨_, T2, L2, X2, hQ2, st2⟩ := own_callV X1 hx (y := own_m20) (z := own_m20) hown (mvT hZ (hw _ (List.mem_of_getElem? (i := 95) rfl))) (mvT hZ (hw _ (List.mem_of_getElem? (i := 96) rfl))) (notFace_of_selects (args := #[]) (mvT hZ (hw _ (List.mem_of_getElem? (i := 98) rfl)))) (mvT hZ (hw _ (List.mem_of_getElem? (i := 98) rfl))) (mvT hZ (hw _ (List.mem_of_getElem? (i := 97) rfl))) (by decide) (backOf (W := 0) (rm_su1_m l Z a0 hw [] x t kt c0 c1 c2 c3 c4 c5 cz fm h0 n0 O0 E_x V_x C_x A_x SC hcz SF hfm) hZ (hw _ (List.mem_of_getElem? (i := 99) rfl)) (hw _ (List.mem_of_getElem? (i := 6) rfl)) (by decide) (by decide)) q2a q2c (g := (mkF m 9 #[rv x] [(.int (0 : Int32)), (.ref x)])) rfl (by rw [hml]; rfl) (argsL := [(.int (0 : Int32))]) (rest := []) (lenOf pd__I_Ljava_lang_String_ rfl) rfl (by show 2 * 0 + _ ≤ _; exact Nat.le_of_eq rfl) (hb hby d13_9) rfl eq1 (by decide) (by decide) (c' := 0) (s' := 0) rfl rfl
  clear q2a q2b q2c kq2 cq2
  obtain ⟨rfl, Nq2, eq2⟩ := hQ2
  have N2 := Fr.app N1 Nq2
  refine own_st (T' := T2) (g' := (mkF m 12 #[rv x] [(.ref x)])) st2 ?_
  clear st2
  exact own_retA X2 hx hret rfl rfl hlk (hb hby d13_12) (by decide) (by decide) ⟨rfl, N2, eq2⟩
theorem own_la1 (c0 c2 c3 c4 c5 : Int32) (hn2 : ¬ (c2.toInt8.toInt32) = ((58 : Int32).toInt8.toInt32)) (hn3 : ¬ (c3.toInt8.toInt32) = ((58 : Int32).toInt8.toInt32)) (hn4 : ¬ (c4.toInt8.toInt32) = ((58 : Int32).toInt8.toInt32)) (hn5 : ¬ (c5.toInt8.toInt32) = ((58 : Int32).toInt8.toInt32)) : own_la c0 (58 : Int32) c2 c3 c4 c5 = 1 := by unfold own_la; rw [if_neg hn5, if_neg hn4, if_neg hn3, if_neg hn2, if_pos rfl]
theorem d28_0 : decode jdk_65_method_133_code 0 = .ok (.iload_n 1, 1) := by decide +kernel
theorem d28_1 : decode jdk_65_method_133_code 1 = .ok (.iload_n 2, 1) := by decide +kernel
theorem d28_2 : decode jdk_65_method_133_code 2 = .ok (.invokestatic 343, 3) := by decide +kernel
theorem d28_5 : decode jdk_65_method_133_code 5 = .ok (.iload_n 2, 1) := by decide +kernel
theorem d28_6 : decode jdk_65_method_133_code 6 = .ok (.iload_n 1, 1) := by decide +kernel
theorem d28_7 : decode jdk_65_method_133_code 7 = .ok (.isub, 1) := by decide +kernel
theorem d28_8 : decode jdk_65_method_133_code 8 = .ok (.istore_n 3, 1) := by decide +kernel
theorem d28_9 : decode jdk_65_method_133_code 9 = .ok (.iload_n 3, 1) := by decide +kernel
theorem d28_10 : decode jdk_65_method_133_code 10 = .ok (.newarray .byte, 2) := by decide +kernel
theorem d28_12 : decode jdk_65_method_133_code 12 = .ok (.astore 4, 2) := by decide +kernel
theorem d28_14 : decode jdk_65_method_133_code 14 = .ok (.aload_n 0, 1) := by decide +kernel
theorem d28_15 : decode jdk_65_method_133_code 15 = .ok (.iload_n 1, 1) := by decide +kernel
theorem d28_16 : decode jdk_65_method_133_code 16 = .ok (.aload 4, 2) := by decide +kernel
theorem d28_18 : decode jdk_65_method_133_code 18 = .ok (.iconst 0, 1) := by decide +kernel
theorem d28_19 : decode jdk_65_method_133_code 19 = .ok (.aload_n 0, 1) := by decide +kernel
theorem d28_20 : decode jdk_65_method_133_code 20 = .ok (.arraylength, 1) := by decide +kernel
theorem d28_21 : decode jdk_65_method_133_code 21 = .ok (.iload_n 1, 1) := by decide +kernel
theorem d28_22 : decode jdk_65_method_133_code 22 = .ok (.isub, 1) := by decide +kernel
theorem d28_23 : decode jdk_65_method_133_code 23 = .ok (.iload_n 3, 1) := by decide +kernel
theorem d28_24 : decode jdk_65_method_133_code 24 = .ok (.invokestatic 304, 3) := by decide +kernel
theorem d28_27 : decode jdk_65_method_133_code 27 = .ok (.invokestatic 150, 3) := by decide +kernel
theorem d28_30 : decode jdk_65_method_133_code 30 = .ok (.aload 4, 2) := by decide +kernel
theorem d28_32 : decode jdk_65_method_133_code 32 = .ok (.areturn, 1) := by decide +kernel
theorem pd__II_V : parseMethodDescriptor "(II)V" = some ⟨[.int, .int], none⟩ := by decide +kernel
theorem ef_crb_1 (m : MethodId) (x0 : Addr) (x1 : Int32) (x2 : Int32) : entryFrame m #[(.ref x0), (.int x1), (.int x2)] 5 = mkF m 0 #[rv x0, iv x1, iv x2, .unset, .unset] [] := by first | (simp [entryFrame, mkF, argsToLocals, Value.category]; done) | rfl
def Q_crb_1 (Z : State) (t : Addr) (kt : ClassId) (x0 : Int32) (x1 : Int32) (x2 : Int32) (x3 : Int32) (x4 : Int32) (x5 : Int32) (h0 : Heap) (n0 : Nat) (v : Option Value) (h : Heap) (L : List Loc) : Prop := ∃ (u : Addr) (ku : ClassId), (v = some (.ref u)) ∧ (Fr n0 L) ∧ (Keep h0 h []) ∧ (Arv Z h u ku .byte (4 : Int32) [(.int (x2.toInt8.toInt32)), (.int (x3.toInt8.toInt32)), (.int (x4.toInt8.toInt32)), (.int (x5.toInt8.toInt32))] (.int (0 : Int32))) ∧ (h0.size ≤ u)
set_option maxRecDepth 65536 in
set_option maxHeartbeats 40000000 in
theorem rm_crb_1 (l : Launch) (Z : State) (a0 : Array Value) (hw : ∀ d ∈ tables_1, d.before a0 Z = true) (ws : List Jvm.Cond) (t : Addr) (kt : ClassId) (x0 : Int32) (x1 : Int32) (x2 : Int32) (x3 : Int32) (x4 : Int32) (x5 : Int32) (h0 : Heap) (n0 : Nat) (O0 : Old Z n0 h0) (A_x : Arv Z h0 t kt .byte (6 : Int32) [(.int (x0.toInt8.toInt32)), (.int (x1.toInt8.toInt32)), (.int (x2.toInt8.toInt32)), (.int (x3.toInt8.toInt32)), (.int (x4.toInt8.toInt32)), (.int (x5.toInt8.toInt32))] (.int (0 : Int32))) :
    MetFree l own_m22 (head1 (Jvm.Cond.code own_m22 jdk_65_method_133_code 5 (some (.array .byte)) :: ws) ({ frames := 1, cells := 1, slots := 4, locals := 40 } : Room)) (fun ar_ U => ar_ = #[(.ref t), (.int (2 : Int32)), (.int (6 : Int32))] ∧ Z.Warmed39 U.vm ∧ U.heap = h0) (fun _ _ _ _ _ => True) (fun _ U o U' => ∃ v L, o = .returned v ∧ Q_crb_1 Z t kt x0 x1 x2 x3 x4 x5 h0 n0 v U'.heap L ∧ FrameEnd U o U' L ({ frames := 1, cells := 1, slots := 4, locals := 40 } : Room).cells ({ frames := 1, cells := 1, slots := 4, locals := 40 } : Room).slots) := by
  refine MetFree.of_bodySF (plainFor_of_name pn_3) hisR ?_
  intro p e s m args below meth c s₁ Bd hml0 hP hK
  obtain ⟨rfl, hZ, hh⟩ := hP
  have hx := Bd.exec
  have hby := Bd.bytes
  have hml : c.maxLocals = 5 := hml0
  have hown : s.vm.findClass "java/util/Arrays" = some m.cls := findClass_of_methodNamed Bd.named
  have hnm := (name_of_methodNamed Bd.named Bd.method).1
  have X0 : Stand p l e ({ frames := 1, cells := 1, slots := 4, locals := 40 } : Room) s m #[(.ref t), (.int (2 : Int32)), (.int (6 : Int32))] below meth c s₁ [] 0 0 := Stand.of_body Bd
  have e0 : s₁.heap = h0 := by rw [← hh, Bd.state]; rfl
  have N0 := Fr.nil n0
  have hret := Bd.returns
  have hlk : meth.locks = false := Bd.notSynchronized
  show own_E p e below s ({ frames := 1, cells := 1, slots := 4, locals := 40 } : Room).cells ({ frames := 1, cells := 1, slots := 4, locals := 40 } : Room).slots (Q_crb_1 Z t kt x0 x1 x2 x3 x4 x5 h0 n0) s₁ (entryFrame m #[(.ref t), (.int (2 : Int32)), (.int (6 : Int32))] 5)
  rw [ef_crb_1 m t (2 : Int32) (6 : Int32)]
  refine own_st (T' := s₁) (g' := (mkF m 1 #[rv t, iv (2 : Int32), iv (6 : Int32), .unset, .unset] [(.int (2 : Int32))])) (fun _ k_ => XS.iloadN X0.here hx rfl (hb hby d28_0) rfl  k_) ?_
  refine own_st (T' := s₁) (g' := (mkF m 2 #[rv t, iv (2 : Int32), iv (6 : Int32), .unset, .unset] [(.int (6 : Int32)), (.int (2 : Int32))])) (fun _ k_ => XS.iloadN X0.here hx rfl (hb hby d28_1) rfl  k_) ?_
  obtain ⟨_, T1, L1, X1, hQ1, st1⟩ := own_callS X0 hx (y := own_m11) hown (mvT hZ (hw _ (List.mem_of_getElem? (i := 126) rfl))) (mvT hZ (hw _ (List.mem_of_getElem? (i := 127) rfl))) (mvT hZ (hw _ (List.mem_of_getElem? (i := 121) rfl))) (mvT hZ (hw _ (List.mem_of_getElem? (i := 128) rfl))) (by decide) (backOf (W := 0) (rm_ckl l Z a0 hw [] (2 : Int32) (6 : Int32) h0 n0 O0 (by decide)) hZ (hw _ (List.mem_of_getElem? (i := 128) rfl)) (hw _ (List.mem_of_getElem? (i := 121) rfl)) (by decide) (by decide)) (g := (mkF m 2 #[rv t, iv (2 : Int32), iv (6 : Int32), .unset, .unset] [(.int (6 : Int32)), (.int (2 : Int32))])) rfl (by rw [hml]; rfl) (argsL := [(.int (2 : Int32)), (.int (6 : Int32))]) (rest := []) (lenOf pd__II_V rfl) rfl (by show 2 * 0 + _ ≤ _; exact Nat.le_of_eq rfl) (hb hby d28_2) rfl e0 (by decide) (by decide) (c' := 0) (s' := 0) rfl rfl
  obtain ⟨rfl, Nq1, eq1⟩ := hQ1
  have N1 := Fr.app N0 Nq1
  refine own_st (T' := T1) (g' := (mkF m 5 #[rv t, iv (2 : Int32), iv (6 : Int32), .unset, .unset] [])) st1 ?_
  clear st1
  refine own_st (T' := T1) (g' := (mkF m 6 #[rv t, iv (2 : Int32), iv (6 : Int32), .unset, .unset] [(.int (6 : Int32))])) (fun _ k_ => XS.iloadN X1.here hx rfl (hb hby d28_5) rfl  k_) ?_
  refine own_st (T' := T1) (g' := (mkF m 7 #[rv t, iv (2 : Int32), iv (6 : Int32), .unset, .unset] [(.int (2 : Int32)), (.int (6 : Int32))])) (fun _ k_ => XS.iloadN X1.here hx rfl (hb hby d28_6) rfl  k_) ?_
  refine own_st (T' := T1) (g' := (mkF m 8 #[rv t, iv (2 : Int32), iv (6 : Int32), .unset, .unset] [(.int (4 : Int32))])) (fun _ k_ => XS.isub X1.here hx rfl (hb hby d28_7) rfl k_) ?_
  refine own_st (T' := T1) (g' := (mkF m 9 #[rv t, iv (2 : Int32), iv (6 : Int32), iv (4 : Int32), .unset] [])) (fun _ k_ => XS.istoreN X1.here hx rfl (hb hby d28_8) rfl (l' := #[rv t, iv (2 : Int32), iv (6 : Int32), iv (4 : Int32), .unset]) rfl k_) ?_
  refine own_st (T' := T1) (g' := (mkF m 10 #[rv t, iv (2 : Int32), iv (6 : Int32), iv (4 : Int32), .unset] [(.int (4 : Int32))])) (fun _ k_ => XS.iloadN X1.here hx rfl (hb hby d28_9) rfl  k_) ?_
  obtain ⟨T2, h2, k2, X2, e2, E2, A2, st2⟩ := newP X1 hx hZ (hw _ (List.mem_of_getElem? (i := 8) rfl)) eq1 (g := (mkF m 10 #[rv t, iv (2 : Int32), iv (6 : Int32), iv (4 : Int32), .unset] [(.int (4 : Int32))])) rfl (hb hby d28_10) rfl (by decide) (cap := 4) (by decide) (by decide) (by decide) (by decide)
  obtain ⟨b2, g2⟩ : ∃ z, z = h0.size := ⟨_, rfl⟩
  rw [← g2] at A2 st2
  have fr2 : n0 ≤ b2 := Nat.le_trans (own_z O0) (Nat.le_of_eq g2.symm)
  have sz2 : h0.size ≤ b2 := Nat.le_trans (Keep.refl h0 []).1 (Nat.le_of_eq g2.symm)
  have V2 : Arv Z h2 b2 k2 .byte (4 : Int32) [(.int (0 : Int32)), (.int (0 : Int32)), (.int (0 : Int32)), (.int (0 : Int32))] (.int (0 : Int32)) := (Arv.new A2 (by decide)).pad (pad_rep [] (.int (0 : Int32)) 4)
  refine own_st (T' := T2) (g' := (mkF m 12 #[rv t, iv (2 : Int32), iv (6 : Int32), iv (4 : Int32), .unset] [(.ref b2)])) st2 ?_
  clear st2
  refine own_st (T' := T2) (g' := (mkF m 14 #[rv t, iv (2 : Int32), iv (6 : Int32), iv (4 : Int32), rv b2] [])) (fun _ k_ => XS.astore X2.here hx rfl (hb hby d28_12) rfl rfl (l' := #[rv t, iv (2 : Int32), iv (6 : Int32), iv (4 : Int32), rv b2]) rfl k_) ?_
  refine own_st (T' := T2) (g' := (mkF m 15 #[rv t, iv (2 : Int32), iv (6 : Int32), iv (4 : Int32), rv b2] [(.ref t)])) (fun _ k_ => XS.aloadN X2.here hx rfl (hb hby d28_14) rfl rfl  k_) ?_
  refine own_st (T' := T2) (g' := (mkF m 16 #[rv t, iv (2 : Int32), iv (6 : Int32), iv (4 : Int32), rv b2] [(.int (2 : Int32)), (.ref t)])) (fun _ k_ => XS.iloadN X2.here hx rfl (hb hby d28_15) rfl  k_) ?_
  refine own_st (T' := T2) (g' := (mkF m 18 #[rv t, iv (2 : Int32), iv (6 : Int32), iv (4 : Int32), rv b2] [(.ref b2), (.int (2 : Int32)), (.ref t)])) (fun _ k_ => XS.aload X2.here hx rfl (hb hby d28_16) rfl rfl  k_) ?_
  refine own_st (T' := T2) (g' := (mkF m 19 #[rv t, iv (2 : Int32), iv (6 : Int32), iv (4 : Int32), rv b2] [(.int (0 : Int32)), (.ref b2), (.int (2 : Int32)), (.ref t)])) (fun _ k_ => XS.iconst X2.here hx rfl (hb hby d28_18) k_) ?_
  refine own_st (T' := T2) (g' := (mkF m 20 #[rv t, iv (2 : Int32), iv (6 : Int32), iv (4 : Int32), rv b2] [(.ref t), (.int (0 : Int32)), (.ref b2), (.int (2 : Int32)), (.ref t)])) (fun _ k_ => XS.aloadN X2.here hx rfl (hb hby d28_19) rfl rfl  k_) ?_
  have f4 : Arv Z h2 t kt .byte (6 : Int32) [(.int (x0.toInt8.toInt32)), (.int (x1.toInt8.toInt32)), (.int (x2.toInt8.toInt32)), (.int (x3.toInt8.toInt32)), (.int (x4.toInt8.toInt32)), (.int (x5.toInt8.toInt32))] (.int (0 : Int32)) := A_x.ext E2
  obtain ⟨cl3, Ar3, -, S3, N3, -, -⟩ := id f4
  refine own_st (T' := T2) (g' := (mkF m 21 #[rv t, iv (2 : Int32), iv (6 : Int32), iv (4 : Int32), rv b2] [(.int (6 : Int32)), (.int (0 : Int32)), (.ref b2), (.int (2 : Int32)), (.ref t)])) (fun t_ k_ => X2.arraylength hx (by rw [e2]; exact Ar3.1) (State.isArrayOf_alike hZ.alike Ar3.2.1) (g := (mkF m 20 #[rv t, iv (2 : Int32), iv (6 : Int32), iv (4 : Int32), rv b2] [(.ref t), (.int (0 : Int32)), (.ref b2), (.int (2 : Int32)), (.ref t)])) rfl rfl (hb hby d28_20) _ (by rw [len_of S3 N3]; exact k_)) ?_
  refine own_st (T' := T2) (g' := (mkF m 22 #[rv t, iv (2 : Int32), iv (6 : Int32), iv (4 : Int32), rv b2] [(.int (2 : Int32)), (.int (6 : Int32)), (.int (0 : Int32)), (.ref b2), (.int (2 : Int32)), (.ref t)])) (fun _ k_ => XS.iloadN X2.here hx rfl (hb hby d28_21) rfl  k_) ?_
  refine own_st (T' := T2) (g' := (mkF m 23 #[rv t, iv (2 : Int32), iv (6 : Int32), iv (4 : Int32), rv b2] [(.int (4 : Int32)), (.int (0 : Int32)), (.ref b2), (.int (2 : Int32)), (.ref t)])) (fun _ k_ => XS.isub X2.here hx rfl (hb hby d28_22) rfl k_) ?_
  refine own_st (T' := T2) (g' := (mkF m 24 #[rv t, iv (2 : Int32), iv (6 : Int32), iv (4 : Int32), rv b2] [(.int (4 : Int32)), (.int (4 : Int32)), (.int (0 : Int32)), (.ref b2), (.int (2 : Int32)), (.ref t)])) (fun _ k_ => XS.iloadN X2.here hx rfl (hb hby d28_23) rfl  k_) ?_
  have f5 : Old Z n0 h2 := O0.ext E2
  obtain ⟨_, T6, L6, X6, hQ6, st6⟩ := own_callS X2 hx (y := own_m8) hown (mvT hZ (hw _ (List.mem_of_getElem? (i := 129) rfl))) (mvT hZ (hw _ (List.mem_of_getElem? (i := 92) rfl))) (mvT hZ (hw _ (List.mem_of_getElem? (i := 93) rfl))) (mvT hZ (hw _ (List.mem_of_getElem? (i := 94) rfl))) (by decide) (backOf (W := 4) (rm_min l Z a0 hw [] (4 : Int32) (4 : Int32) h2 n0 f5 (by decide)) hZ (hw _ (List.mem_of_getElem? (i := 94) rfl)) (hw _ (List.mem_of_getElem? (i := 93) rfl)) (by decide) (by decide)) (g := (mkF m 24 #[rv t, iv (2 : Int32), iv (6 : Int32), iv (4 : Int32), rv b2] [(.int (4 : Int32)), (.int (4 : Int32)), (.int (0 : Int32)), (.ref b2), (.int (2 : Int32)), (.ref t)])) rfl (by rw [hml]; rfl) (argsL := [(.int (4 : Int32)), (.int (4 : Int32))]) (rest := [(.int (0 : Int32)), (.ref b2), (.int (2 : Int32)), (.ref t)]) (lenOf pd__II_I rfl) rfl (by show 2 * 0 + _ ≤ _; exact Nat.le_of_eq rfl) (hb hby d28_24) rfl e2 (by decide) (by decide) (c' := 1) (s' := 4) rfl rfl
  obtain ⟨rfl, Nq6, eq6⟩ := hQ6
  have N6 := Fr.app N1 Nq6
  refine own_st (T' := T6) (g' := (mkF m 27 #[rv t, iv (2 : Int32), iv (6 : Int32), iv (4 : Int32), rv b2] [(.int (4 : Int32)), (.int (0 : Int32)), (.ref b2), (.int (2 : Int32)), (.ref t)])) st6 ?_
  clear st6
  obtain ⟨T7, h7, L7, X7, e7, N7, K7, Va7, st7⟩ := cpA X6 hx hZ hown (hw _ (List.mem_of_getElem? (i := 130) rfl)) (hw _ (List.mem_of_getElem? (i := 133) rfl)) (hw _ (List.mem_of_getElem? (i := 131) rfl)) (hw _ (List.mem_of_getElem? (i := 132) rfl)) eq6 f4 V2 (sp := (2 : Int32)) (dp := (0 : Int32)) (nn := (4 : Int32)) (Or.inl ⟨rfl, rfl⟩) (by decide) (by decide) (by decide) (by decide) (by decide) (us := [(.int (x2.toInt8.toInt32)), (.int (x3.toInt8.toInt32)), (.int (x4.toInt8.toInt32)), (.int (x5.toInt8.toInt32))]) rfl (Nat.le_of_ble_eq_true rfl) N6 fr2 (g := (mkF m 27 #[rv t, iv (2 : Int32), iv (6 : Int32), iv (4 : Int32), rv b2] [(.int (4 : Int32)), (.int (0 : Int32)), (.ref b2), (.int (2 : Int32)), (.ref t)])) rfl (by rw [hml]; rfl) (rest := []) rfl (hb hby d28_27) (by decide) (W := 0) (by show 2 * 0 + _ ≤ _; exact Nat.le_of_eq rfl) (by decide)
  have V7 : Arv Z h7 b2 k2 .byte (4 : Int32) [(.int (x2.toInt8.toInt32)), (.int (x3.toInt8.toInt32)), (.int (x4.toInt8.toInt32)), (.int (x5.toInt8.toInt32))] (.int (0 : Int32)) := Va7
  refine own_st (T' := T7) (g' := (mkF m 30 #[rv t, iv (2 : Int32), iv (6 : Int32), iv (4 : Int32), rv b2] [])) st7 ?_
  clear st7
  refine own_st (T' := T7) (g' := (mkF m 32 #[rv t, iv (2 : Int32), iv (6 : Int32), iv (4 : Int32), rv b2] [(.ref b2)])) (fun _ k_ => XS.aload X7.here hx rfl (hb hby d28_30) rfl rfl  k_) ?_
  have f8 : Keep h0 h2 [] := (Keep.refl h0 []).ext E2
  have f9 : Keep h0 h7 [] := f8.trans K7 (allS (Or.inr sz2) all0)
  exact own_retA X7 hx hret rfl rfl hlk (hb hby d28_32) (by decide) (by decide) (by rw [e7]; exact ⟨b2, k2, rfl, N7, f9, V7, sz2⟩)
theorem d27_0 : decode jdk_65_method_132_code 0 = .ok (.iload_n 1, 1) := by decide +kernel
theorem d27_1 : decode jdk_65_method_132_code 1 = .ok (.ifCond .ne 9, 3) := by decide +kernel
theorem d27_10 : decode jdk_65_method_132_code 10 = .ok (.aload_n 0, 1) := by decide +kernel
theorem d27_11 : decode jdk_65_method_132_code 11 = .ok (.iload_n 1, 1) := by decide +kernel
theorem d27_12 : decode jdk_65_method_132_code 12 = .ok (.iload_n 2, 1) := by decide +kernel
theorem d27_13 : decode jdk_65_method_132_code 13 = .ok (.invokestatic 339, 3) := by decide +kernel
theorem d27_16 : decode jdk_65_method_132_code 16 = .ok (.areturn, 1) := by decide +kernel
theorem pd___BII__B : parseMethodDescriptor "([BII)[B" = some ⟨[(.array .byte), .int, .int], some (.array .byte)⟩ := by decide +kernel
theorem ef_cra_1 (m : MethodId) (x0 : Addr) (x1 : Int32) (x2 : Int32) : entryFrame m #[(.ref x0), (.int x1), (.int x2)] 3 = mkF m 0 #[rv x0, iv x1, iv x2] [] := by first | (simp [entryFrame, mkF, argsToLocals, Value.category]; done) | rfl
def Q_cra_1 (Z : State) (t : Addr) (kt : ClassId) (x0 : Int32) (x1 : Int32) (x2 : Int32) (x3 : Int32) (x4 : Int32) (x5 : Int32) (h0 : Heap) (n0 : Nat) (v : Option Value) (h : Heap) (L : List Loc) : Prop := ∃ (u : Addr) (ku : ClassId), (v = some (.ref u)) ∧ (Fr n0 L) ∧ (Keep h0 h []) ∧ (Arv Z h u ku .byte (4 : Int32) [(.int (x2.toInt8.toInt32)), (.int (x3.toInt8.toInt32)), (.int (x4.toInt8.toInt32)), (.int (x5.toInt8.toInt32))] (.int (0 : Int32))) ∧ (h0.size ≤ u)
set_option maxRecDepth 65536 in
set_option maxHeartbeats 40000000 in
theorem rm_cra_1 (l : Launch) (Z : State) (a0 : Array Value) (hw : ∀ d ∈ tables_1, d.before a0 Z = true) (ws : List Jvm.Cond) (t : Addr) (kt : ClassId) (x0 : Int32) (x1 : Int32) (x2 : Int32) (x3 : Int32) (x4 : Int32) (x5 : Int32) (h0 : Heap) (n0 : Nat) (O0 : Old Z n0 h0) (A_x : Arv Z h0 t kt .byte (6 : Int32) [(.int (x0.toInt8.toInt32)), (.int (x1.toInt8.toInt32)), (.int (x2.toInt8.toInt32)), (.int (x3.toInt8.toInt32)), (.int (x4.toInt8.toInt32)), (.int (x5.toInt8.toInt32))] (.int (0 : Int32))) :
    MetFree l own_m23 (head1 (Jvm.Cond.code own_m23 jdk_65_method_132_code 3 (some (.array .byte)) :: ws) ({ frames := 2, cells := 1, slots := 4, locals := 56 } : Room)) (fun ar_ U => ar_ = #[(.ref t), (.int (2 : Int32)), (.int (6 : Int32))] ∧ Z.Warmed39 U.vm ∧ U.heap = h0) (fun _ _ _ _ _ => True) (fun _ U o U' => ∃ v L, o = .returned v ∧ Q_cra_1 Z t kt x0 x1 x2 x3 x4 x5 h0 n0 v U'.heap L ∧ FrameEnd U o U' L ({ frames := 2, cells := 1, slots := 4, locals := 56 } : Room).cells ({ frames := 2, cells := 1, slots := 4, locals := 56 } : Room).slots) := by
  refine MetFree.of_bodySF (plainFor_of_name pn_3) hisR ?_
  intro p e s m args below meth c s₁ Bd hml0 hP hK
  obtain ⟨rfl, hZ, hh⟩ := hP
  have hx := Bd.exec
  have hby := Bd.bytes
  have hml : c.maxLocals = 3 := hml0
  have hown : s.vm.findClass "java/util/Arrays" = some m.cls := findClass_of_methodNamed Bd.named
  have hnm := (name_of_methodNamed Bd.named Bd.method).1
  have X0 : Stand p l e ({ frames := 2, cells := 1, slots := 4, locals := 56 } : Room) s m #[(.ref t), (.int (2 : Int32)), (.int (6 : Int32))] below meth c s₁ [] 0 0 := Stand.of_body Bd
  have e0 : s₁.heap = h0 := by rw [← hh, Bd.state]; rfl
  have N0 := Fr.nil n0
  have hret := Bd.returns
  have hlk : meth.locks = false := Bd.notSynchronized
  show own_E p e below s ({ frames := 2, cells := 1, slots := 4, locals := 56 } : Room).cells ({ frames := 2, cells := 1, slots := 4, locals := 56 } : Room).slots (Q_cra_1 Z t kt x0 x1 x2 x3 x4 x5 h0 n0) s₁ (entryFrame m #[(.ref t), (.int (2 : Int32)), (.int (6 : Int32))] 3)
  rw [ef_cra_1 m t (2 : Int32) (6 : Int32)]
  refine own_st (T' := s₁) (g' := (mkF m 1 #[rv t, iv (2 : Int32), iv (6 : Int32)] [(.int (2 : Int32))])) (fun _ k_ => XS.iloadN X0.here hx rfl (hb hby d27_0) rfl  k_) ?_
  refine own_st (T' := s₁) (g' := (mkF m 10 #[rv t, iv (2 : Int32), iv (6 : Int32)] [])) (fun _ k_ => XS.ifYes X0.here hx rfl (pc0 := 1) (pc' := 10) rfl (hb hby d27_1) rfl ((if0 _ _).trans (feq (by decide : ¬ ((2 : Int32) = (0 : Int32)))).2) (by decide) (by decide) k_) ?_
  refine own_st (T' := s₁) (g' := (mkF m 11 #[rv t, iv (2 : Int32), iv (6 : Int32)] [(.ref t)])) (fun _ k_ => XS.aloadN X0.here hx rfl (hb hby d27_10) rfl rfl  k_) ?_
  refine own_st (T' := s₁) (g' := (mkF m 12 #[rv t, iv (2 : Int32), iv (6 : Int32)] [(.int (2 : Int32)), (.ref t)])) (fun _ k_ => XS.iloadN X0.here hx rfl (hb hby d27_11) rfl  k_) ?_
  refine own_st (T' := s₁) (g' := (mkF m 13 #[rv t, iv (2 : Int32), iv (6 : Int32)] [(.int (6 : Int32)), (.int (2 : Int32)), (.ref t)])) (fun _ k_ => XS.iloadN X0.here hx rfl (hb hby d27_12) rfl  k_) ?_
  obtain ⟨_, T1, L1, X1, hQ1, st1⟩ := own_callS X0 hx (y := own_m22) hown (mvT hZ (hw _ (List.mem_of_getElem? (i := 123) rfl))) (mvT hZ (hw _ (List.mem_of_getElem? (i := 124) rfl))) (mvT hZ (hw _ (List.mem_of_getElem? (i := 121) rfl))) (mvT hZ (hw _ (List.mem_of_getElem? (i := 125) rfl))) (by decide) (backOf (W := 0) (rm_crb_1 l Z a0 hw [] t kt x0 x1 x2 x3 x4 x5 h0 n0 O0 A_x) hZ (hw _ (List.mem_of_getElem? (i := 125) rfl)) (hw _ (List.mem_of_getElem? (i := 121) rfl)) (by decide) (by decide)) (g := (mkF m 13 #[rv t, iv (2 : Int32), iv (6 : Int32)] [(.int (6 : Int32)), (.int (2 : Int32)), (.ref t)])) rfl (by rw [hml]; rfl) (argsL := [(.ref t), (.int (2 : Int32)), (.int (6 : Int32))]) (rest := []) (lenOf pd___BII__B rfl) rfl (by show 2 * 0 + _ ≤ _; exact Nat.le_of_eq rfl) (hb hby d27_13) rfl e0 (by decide) (by decide) (c' := 1) (s' := 4) rfl rfl
  obtain ⟨u1, ku1, rfl, Nq1, K1, fq1_0, xq1_fresh_u⟩ := hQ1
  have N1 := Fr.app N0 Nq1
  refine own_st (T' := T1) (g' := (mkF m 16 #[rv t, iv (2 : Int32), iv (6 : Int32)] [(.ref u1)])) st1 ?_
  clear st1
  have f2 : Keep h0 T1.heap [] := (Keep.refl h0 []).trans K1 all0
  exact own_retA X1 hx hret rfl rfl hlk (hb hby d27_16) (by decide) (by decide) ⟨u1, ku1, rfl, N1, f2, fq1_0, (Nat.le_trans (Keep.refl h0 []).1 xq1_fresh_u)⟩
theorem d26_0 : decode jdk_43_method_47_code 0 = .ok (.iload_n 2, 1) := by decide +kernel
theorem d26_1 : decode jdk_43_method_47_code 1 = .ok (.ifCond .ne 6, 3) := by decide +kernel
theorem d26_7 : decode jdk_43_method_47_code 7 = .ok (.new 1, 3) := by decide +kernel
theorem d26_10 : decode jdk_43_method_47_code 10 = .ok (.dup, 1) := by decide +kernel
theorem d26_11 : decode jdk_43_method_47_code 11 = .ok (.aload_n 0, 1) := by decide +kernel
theorem d26_12 : decode jdk_43_method_47_code 12 = .ok (.iload_n 1, 1) := by decide +kernel
theorem d26_13 : decode jdk_43_method_47_code 13 = .ok (.iload_n 1, 1) := by decide +kernel
theorem d26_14 : decode jdk_43_method_47_code 14 = .ok (.iload_n 2, 1) := by decide +kernel
theorem d26_15 : decode jdk_43_method_47_code 15 = .ok (.iadd, 1) := by decide +kernel
theorem d26_16 : decode jdk_43_method_47_code 16 = .ok (.invokestatic 232, 3) := by decide +kernel
theorem d26_19 : decode jdk_43_method_47_code 19 = .ok (.iconst 0, 1) := by decide +kernel
theorem d26_20 : decode jdk_43_method_47_code 20 = .ok (.invokespecial 112, 3) := by decide +kernel
theorem d26_23 : decode jdk_43_method_47_code 23 = .ok (.areturn, 1) := by decide +kernel
theorem pd___BB_V : parseMethodDescriptor "([BB)V" = some ⟨[(.array .byte), .byte], none⟩ := by decide +kernel
theorem ef_nws_1 (m : MethodId) (x0 : Addr) (x1 : Int32) (x2 : Int32) : entryFrame m #[(.ref x0), (.int x1), (.int x2)] 3 = mkF m 0 #[rv x0, iv x1, iv x2] [] := by first | (simp [entryFrame, mkF, argsToLocals, Value.category]; done) | rfl
def Q_nws_1 (Z : State) (t : Addr) (kt : ClassId) (x0 : Int32) (x1 : Int32) (x2 : Int32) (x3 : Int32) (x4 : Int32) (x5 : Int32) (h0 : Heap) (n0 : Nat) (v : Option Value) (h : Heap) (L : List Loc) : Prop := ∃ (b : Addr) (u : Addr) (ku : ClassId), (v = some (.ref b)) ∧ (Fr n0 L) ∧ (Keep h0 h []) ∧ (Exa Z h b "java/lang/String") ∧ (Fld Z h b "java/lang/String" "coder" "B" (.int (0 : Int32))) ∧ (Fld Z h b "java/lang/String" "value" "[B" (.ref u)) ∧ (Arv Z h u ku .byte (4 : Int32) [(.int (x2.toInt8.toInt32)), (.int (x3.toInt8.toInt32)), (.int (x4.toInt8.toInt32)), (.int (x5.toInt8.toInt32))] (.int (0 : Int32))) ∧ (h0.size ≤ b)
set_option maxRecDepth 65536 in
set_option maxHeartbeats 40000000 in
theorem rm_nws_1 (l : Launch) (Z : State) (a0 : Array Value) (hw : ∀ d ∈ tables_1, d.before a0 Z = true) (ws : List Jvm.Cond) (t : Addr) (kt : ClassId) (x0 : Int32) (x1 : Int32) (x2 : Int32) (x3 : Int32) (x4 : Int32) (x5 : Int32) (h0 : Heap) (n0 : Nat) (O0 : Old Z n0 h0) (A_x : Arv Z h0 t kt .byte (6 : Int32) [(.int (x0.toInt8.toInt32)), (.int (x1.toInt8.toInt32)), (.int (x2.toInt8.toInt32)), (.int (x3.toInt8.toInt32)), (.int (x4.toInt8.toInt32)), (.int (x5.toInt8.toInt32))] (.int (0 : Int32))) :
    MetFree l own_m24 (head1 (Jvm.Cond.code own_m24 jdk_43_method_47_code 3 (some (.object "java/lang/String")) :: ws) ({ frames := 3, cells := 2, slots := 8, locals := 72 } : Room)) (fun ar_ U => ar_ = #[(.ref t), (.int (2 : Int32)), (.int (4 : Int32))] ∧ Z.Warmed39 U.vm ∧ U.heap = h0) (fun _ _ _ _ _ => True) (fun _ U o U' => ∃ v L, o = .returned v ∧ Q_nws_1 Z t kt x0 x1 x2 x3 x4 x5 h0 n0 v U'.heap L ∧ FrameEnd U o U' L ({ frames := 3, cells := 2, slots := 8, locals := 72 } : Room).cells ({ frames := 3, cells := 2, slots := 8, locals := 72 } : Room).slots) := by
  refine MetFree.of_bodySF (plainFor_of_name pn_5) hisR ?_
  intro p e s m args below meth c s₁ Bd hml0 hP hK
  obtain ⟨rfl, hZ, hh⟩ := hP
  have hx := Bd.exec
  have hby := Bd.bytes
  have hml : c.maxLocals = 3 := hml0
  have hown : s.vm.findClass "java/lang/StringLatin1" = some m.cls := findClass_of_methodNamed Bd.named
  have hnm := (name_of_methodNamed Bd.named Bd.method).1
  have X0 : Stand p l e ({ frames := 3, cells := 2, slots := 8, locals := 72 } : Room) s m #[(.ref t), (.int (2 : Int32)), (.int (4 : Int32))] below meth c s₁ [] 0 0 := Stand.of_body Bd
  have e0 : s₁.heap = h0 := by rw [← hh, Bd.state]; rfl
  have N0 := Fr.nil n0
  have hret := Bd.returns
  have hlk : meth.locks = false := Bd.notSynchronized
  show own_E p e below s ({ frames := 3, cells := 2, slots := 8, locals := 72 } : Room).cells ({ frames := 3, cells := 2, slots := 8, locals := 72 } : Room).slots (Q_nws_1 Z t kt x0 x1 x2 x3 x4 x5 h0 n0) s₁ (entryFrame m #[(.ref t), (.int (2 : Int32)), (.int (4 : Int32))] 3)
  rw [ef_nws_1 m t (2 : Int32) (4 : Int32)]
  refine own_st (T' := s₁) (g' := (mkF m 1 #[rv t, iv (2 : Int32), iv (4 : Int32)] [(.int (4 : Int32))])) (fun _ k_ => XS.iloadN X0.here hx rfl (hb hby d26_0) rfl  k_) ?_
  refine own_st (T' := s₁) (g' := (mkF m 7 #[rv t, iv (2 : Int32), iv (4 : Int32)] [])) (fun _ k_ => XS.ifYes X0.here hx rfl (pc0 := 1) (pc' := 7) rfl (hb hby d26_1) rfl ((if0 _ _).trans (feq (by decide : ¬ ((4 : Int32) = (0 : Int32)))).2) (by decide) (by decide) k_) ?_
  obtain ⟨T1, h1, X1, e1, E1, A1, D1, -, st1⟩ := newO X0 hx hZ hown (hw _ (List.mem_of_getElem? (i := 118) rfl)) (hw _ (List.mem_of_getElem? (i := 7) rfl)) (hw _ (List.mem_of_getElem? (i := 6) rfl)) e0 (g := (mkF m 7 #[rv t, iv (2 : Int32), iv (4 : Int32)] [])) rfl (hb hby d26_7) (by decide) (by decide)
  obtain ⟨b1, g1⟩ : ∃ z, z = h0.size := ⟨_, rfl⟩
  rw [← g1] at A1 D1 st1
  have fr1 : n0 ≤ b1 := Nat.le_trans (own_z O0) (Nat.le_of_eq g1.symm)
  have sz1 : h0.size ≤ b1 := Nat.le_trans (Keep.refl h0 []).1 (Nat.le_of_eq g1.symm)
  have F1_value : Fld Z h1 b1 "java/lang/String" "value" "[B" .null := D1 (Or.inr (hw _ (List.mem_of_getElem? (i := 9) rfl))) (ty := (.array .byte)) (by decide)
  have F1_coder : Fld Z h1 b1 "java/lang/String" "coder" "B" (.int (0 : Int32)) := D1 (Or.inr (hw _ (List.mem_of_getElem? (i := 10) rfl))) (ty := .byte) (by decide)
  refine own_st (T' := T1) (g' := (mkF m 10 #[rv t, iv (2 : Int32), iv (4 : Int32)] [(.ref b1)])) st1 ?_
  clear st1
  refine own_st (T' := T1) (g' := (mkF m 11 #[rv t, iv (2 : Int32), iv (4 : Int32)] [(.ref b1), (.ref b1)])) (fun _ k_ => XS.dup X1.here hx rfl (hb hby d26_10) rfl rfl k_) ?_
  refine own_st (T' := T1) (g' := (mkF m 12 #[rv t, iv (2 : Int32), iv (4 : Int32)] [(.ref t), (.ref b1), (.ref b1)])) (fun _ k_ => XS.aloadN X1.here hx rfl (hb hby d26_11) rfl rfl  k_) ?_
  refine own_st (T' := T1) (g' := (mkF m 13 #[rv t, iv (2 : Int32), iv (4 : Int32)] [(.int (2 : Int32)), (.ref t), (.ref b1), (.ref b1)])) (fun _ k_ => XS.iloadN X1.here hx rfl (hb hby d26_12) rfl  k_) ?_
  refine own_st (T' := T1) (g' := (mkF m 14 #[rv t, iv (2 : Int32), iv (4 : Int32)] [(.int (2 : Int32)), (.int (2 : Int32)), (.ref t), (.ref b1), (.ref b1)])) (fun _ k_ => XS.iloadN X1.here hx rfl (hb hby d26_13) rfl  k_) ?_
  refine own_st (T' := T1) (g' := (mkF m 15 #[rv t, iv (2 : Int32), iv (4 : Int32)] [(.int (4 : Int32)), (.int (2 : Int32)), (.int (2 : Int32)), (.ref t), (.ref b1), (.ref b1)])) (fun _ k_ => XS.iloadN X1.here hx rfl (hb hby d26_14) rfl  k_) ?_
  refine own_st (T' := T1) (g' := (mkF m 16 #[rv t, iv (2 : Int32), iv (4 : Int32)] [(.int (6 : Int32)), (.int (2 : Int32)), (.ref t), (.ref b1), (.ref b1)])) (fun _ k_ => XS.iadd X1.here hx rfl (hb hby d26_15) rfl k_) ?_
  have f2 : Arv Z h1 t kt .byte (6 : Int32) [(.int (x0.toInt8.toInt32)), (.int (x1.toInt8.toInt32)), (.int (x2.toInt8.toInt32)), (.int (x3.toInt8.toInt32)), (.int (x4.toInt8.toInt32)), (.int (x5.toInt8.toInt32))] (.int (0 : Int32)) := A_x.ext E1
  have f3 : Old Z n0 h1 := O0.ext E1
  have f4 : Keep h0 h1 [] := (Keep.refl h0 []).ext E1
  obtain ⟨_, T5, L5, X5, hQ5, st5⟩ := own_callS X1 hx (y := own_m23) hown (mvT hZ (hw _ (List.mem_of_getElem? (i := 119) rfl))) (mvT hZ (hw _ (List.mem_of_getElem? (i := 120) rfl))) (mvT hZ (hw _ (List.mem_of_getElem? (i := 121) rfl))) (mvT hZ (hw _ (List.mem_of_getElem? (i := 122) rfl))) (by decide) (backOf (W := 2) (rm_cra_1 l Z a0 hw [] t kt x0 x1 x2 x3 x4 x5 h1 n0 f3 f2) hZ (hw _ (List.mem_of_getElem? (i := 122) rfl)) (hw _ (List.mem_of_getElem? (i := 121) rfl)) (by decide) (by decide)) (g := (mkF m 16 #[rv t, iv (2 : Int32), iv (4 : Int32)] [(.int (6 : Int32)), (.int (2 : Int32)), (.ref t), (.ref b1), (.ref b1)])) rfl (by rw [hml]; rfl) (argsL := [(.ref t), (.int (2 : Int32)), (.int (6 : Int32))]) (rest := [(.ref b1), (.ref b1)]) (lenOf pd___BII__B rfl) rfl (by show 2 * 0 + _ ≤ _; exact Nat.le_of_eq rfl) (hb hby d26_16) rfl e1 (by decide) (by decide) (c' := 2) (s' := 8) rfl rfl
  obtain ⟨u5, ku5, rfl, Nq5, K5, fq5_0, xq5_fresh_u⟩ := hQ5
  have N5 := Fr.app N0 Nq5
  refine own_st (T' := T5) (g' := (mkF m 19 #[rv t, iv (2 : Int32), iv (4 : Int32)] [(.ref u5), (.ref b1), (.ref b1)])) st5 ?_
  clear st5
  refine own_st (T' := T5) (g' := (mkF m 20 #[rv t, iv (2 : Int32), iv (4 : Int32)] [(.int (0 : Int32)), (.ref u5), (.ref b1), (.ref b1)])) (fun _ k_ => XS.iconst X5.here hx rfl (hb hby d26_19) k_) ?_
  have f6 : Exa Z T5.heap b1 "java/lang/String" := A1.keep K5
  have f7 : Fld Z T5.heap b1 "java/lang/String" "value" "[B" .null := F1_value.keep K5 nin0
  have f8 : Fld Z T5.heap b1 "java/lang/String" "coder" "B" (.int (0 : Int32)) := F1_coder.keep K5 nin0
  have f9 : Old Z n0 T5.heap := f3.keep K5 all0
  obtain ⟨_, T10, L10, X10, hQ10, st10⟩ := own_callI X5 hx (y := own_m12) rfl hown (mvT hZ (hw _ (List.mem_of_getElem? (i := 134) rfl))) (mvT hZ (hw _ (List.mem_of_getElem? (i := 135) rfl))) (mvT hZ (hw _ (List.mem_of_getElem? (i := 136) rfl))) (by decide) (backOf (W := 1) (rm_inbb l Z a0 hw [] b1 u5 T5.heap n0 f9 f6 f7 f8 fr1) hZ (hw _ (List.mem_of_getElem? (i := 136) rfl)) (hw _ (List.mem_of_getElem? (i := 6) rfl)) (by decide) (by decide)) (g := (mkF m 20 #[rv t, iv (2 : Int32), iv (4 : Int32)] [(.int (0 : Int32)), (.ref u5), (.ref b1), (.ref b1)])) rfl (by rw [hml]; rfl) (a := b1) (argsL := [(.ref u5), (.int (0 : Int32))]) (rest := [(.ref b1)]) (lenOf pd___BB_V rfl) rfl (by show 2 * 0 + _ ≤ _; exact Nat.le_of_eq rfl) (hb hby d26_20) rfl rfl (by decide) (by decide) (c' := 2) (s' := 8) rfl rfl
  obtain ⟨rfl, Nq10, K10, fq10_0, fq10_1, fq10_2⟩ := hQ10
  have N10 := Fr.app N5 Nq10
  refine own_st (T' := T10) (g' := (mkF m 23 #[rv t, iv (2 : Int32), iv (4 : Int32)] [(.ref b1)])) st10 ?_
  clear st10
  have f11 : Keep h0 T5.heap [] := f4.trans K5 all0
  have f12 : Keep h0 T10.heap [] := f11.trans K10 (allS (Or.inr sz1) all0)
  have ne13 : b1 ≠ u5 := Nat.ne_of_lt (Nat.lt_of_lt_of_le A1.lt xq5_fresh_u)
  have f14 : Arv Z T10.heap u5 ku5 .byte (4 : Int32) [(.int (x2.toInt8.toInt32)), (.int (x3.toInt8.toInt32)), (.int (x4.toInt8.toInt32)), (.int (x5.toInt8.toInt32))] (.int (0 : Int32)) := fq5_0.keep K10 (ninS (Ne.symm ne13) nin0)
  exact own_retA X10 hx hret rfl rfl hlk (hb hby d26_23) (by decide) (by decide) ⟨b1, u5, ku5, rfl, N10, f12, fq10_0, fq10_1, fq10_2, f14, sz1⟩
theorem d22_22 : decode jdk_42_method_92_code 22 = .ok (.iload_n 2, 1) := by decide +kernel
theorem d22_23 : decode jdk_42_method_92_code 23 = .ok (.iload_n 1, 1) := by decide +kernel
theorem d22_24 : decode jdk_42_method_92_code 24 = .ok (.isub, 1) := by decide +kernel
theorem d22_25 : decode jdk_42_method_92_code 25 = .ok (.istore 4, 2) := by decide +kernel
theorem d22_27 : decode jdk_42_method_92_code 27 = .ok (.aload_n 0, 1) := by decide +kernel
theorem d22_28 : decode jdk_42_method_92_code 28 = .ok (.invokevirtual 492, 3) := by decide +kernel
theorem d22_31 : decode jdk_42_method_92_code 31 = .ok (.ifCond .eq 16, 3) := by decide +kernel
theorem d22_34 : decode jdk_42_method_92_code 34 = .ok (.aload_n 0, 1) := by decide +kernel
theorem d22_35 : decode jdk_42_method_92_code 35 = .ok (.getfield 9, 3) := by decide +kernel
theorem d22_38 : decode jdk_42_method_92_code 38 = .ok (.iload_n 1, 1) := by decide +kernel
theorem d22_39 : decode jdk_42_method_92_code 39 = .ok (.iload 4, 2) := by decide +kernel
theorem d22_41 : decode jdk_42_method_92_code 41 = .ok (.invokestatic 685, 3) := by decide +kernel
theorem d22_44 : decode jdk_42_method_92_code 44 = .ok (.goto 13, 3) := by decide +kernel
theorem d22_57 : decode jdk_42_method_92_code 57 = .ok (.areturn, 1) := by decide +kernel
theorem pd___BII_Ljava_lang_String_ : parseMethodDescriptor "([BII)Ljava/lang/String;" = some ⟨[(.array .byte), .int, .int], some (.object "java/lang/String")⟩ := by decide +kernel
theorem ef_sub_1 (m : MethodId) (x0 : Addr) (x1 : Int32) (x2 : Int32) : entryFrame m #[(.ref x0), (.int x1), (.int x2)] 5 = mkF m 0 #[rv x0, iv x1, iv x2, .unset, .unset] [] := by first | (simp [entryFrame, mkF, argsToLocals, Value.category]; done) | rfl
def Q_sub_1 (Z : State) (x : Addr) (t : Addr) (kt : ClassId) (x0 : Int32) (x1 : Int32) (x2 : Int32) (x3 : Int32) (x4 : Int32) (x5 : Int32) (cz : Int32) (fm : Value) (h0 : Heap) (n0 : Nat) (v : Option Value) (h : Heap) (L : List Loc) : Prop := ∃ (b : Addr) (u : Addr) (ku : ClassId), (v = some (.ref b)) ∧ (Fr n0 L) ∧ (Keep h0 h []) ∧ (Exa Z h b "java/lang/String") ∧ (Fld Z h b "java/lang/String" "coder" "B" (.int (0 : Int32))) ∧ (Fld Z h b "java/lang/String" "value" "[B" (.ref u)) ∧ (Arv Z h u ku .byte (4 : Int32) [(.int (x2.toInt8.toInt32)), (.int (x3.toInt8.toInt32)), (.int (x4.toInt8.toInt32)), (.int (x5.toInt8.toInt32))] (.int (0 : Int32))) ∧ (h0.size ≤ b)
set_option maxRecDepth 65536 in
set_option maxHeartbeats 40000000 in
theorem rm_sub_1 (l : Launch) (Z : State) (a0 : Array Value) (hw : ∀ d ∈ tables_1, d.before a0 Z = true) (ws : List Jvm.Cond) (x : Addr) (t : Addr) (kt : ClassId) (x0 : Int32) (x1 : Int32) (x2 : Int32) (x3 : Int32) (x4 : Int32) (x5 : Int32) (cz : Int32) (fm : Value) (h0 : Heap) (n0 : Nat) (O0 : Old Z n0 h0) (E_x : Exa Z h0 x "java/lang/String") (V_x : Fld Z h0 x "java/lang/String" "value" "[B" (.ref t)) (C_x : Fld Z h0 x "java/lang/String" "coder" "B" (.int (0 : Int32))) (A_x : Arv Z h0 t kt .byte (6 : Int32) [(.int (x0.toInt8.toInt32)), (.int (x1.toInt8.toInt32)), (.int (x2.toInt8.toInt32)), (.int (x3.toInt8.toInt32)), (.int (x4.toInt8.toInt32)), (.int (x5.toInt8.toInt32))] (.int (0 : Int32))) (SC : Sta Z Z.heap "java/lang/String" "COMPACT_STRINGS" "Z" (.int cz)) (hcz : ¬ cz = (0 : Int32)) (SF : Sta Z Z.heap "jdk/internal/util/Preconditions" "SIOOBE_FORMATTER" "Ljava/util/function/BiFunction;" fm) (hfm : fm.isRef = true) :
    MetFree l own_m19 (head1 (Jvm.Cond.code own_m19 jdk_42_method_92_code 5 (some (.object "java/lang/String")) :: ws) ({ frames := 4, cells := 2, slots := 8, locals := 86 } : Room)) (fun ar_ U => ar_ = #[(.ref x), (.int (2 : Int32)), (.int (6 : Int32))] ∧ Z.Warmed39 U.vm ∧ U.heap = h0) (fun _ _ _ _ _ => True) (fun _ U o U' => ∃ v L, o = .returned v ∧ Q_sub_1 Z x t kt x0 x1 x2 x3 x4 x5 cz fm h0 n0 v U'.heap L ∧ FrameEnd U o U' L ({ frames := 4, cells := 2, slots := 8, locals := 86 } : Room).cells ({ frames := 4, cells := 2, slots := 8, locals := 86 } : Room).slots) := by
  refine MetFree.of_bodySF (plainFor_of_name pn_1) hisR ?_
  intro p e s m args below meth c s₁ Bd hml0 hP hK
  obtain ⟨rfl, hZ, hh⟩ := hP
  have hx := Bd.exec
  have hby := Bd.bytes
  have hml : c.maxLocals = 5 := hml0
  have hown : s.vm.findClass "java/lang/String" = some m.cls := findClass_of_methodNamed Bd.named
  have hnm := (name_of_methodNamed Bd.named Bd.method).1
  have X0 : Stand p l e ({ frames := 4, cells := 2, slots := 8, locals := 86 } : Room) s m #[(.ref x), (.int (2 : Int32)), (.int (6 : Int32))] below meth c s₁ [] 0 0 := Stand.of_body Bd
  have e0 : s₁.heap = h0 := by rw [← hh, Bd.state]; rfl
  have N0 := Fr.nil n0
  have hret := Bd.returns
  have hlk : meth.locks = false := Bd.notSynchronized
  show own_E p e below s ({ frames := 4, cells := 2, slots := 8, locals := 86 } : Room).cells ({ frames := 4, cells := 2, slots := 8, locals := 86 } : Room).slots (Q_sub_1 Z x t kt x0 x1 x2 x3 x4 x5 cz fm h0 n0) s₁ (entryFrame m #[(.ref x), (.int (2 : Int32)), (.int (6 : Int32))] 5)
  rw [ef_sub_1 m x (2 : Int32) (6 : Int32)]
  refine own_st (T' := s₁) (g' := (mkF m 1 #[rv x, iv (2 : Int32), iv (6 : Int32), .unset, .unset] [(.ref x)])) (fun _ k_ => XS.aloadN X0.here hx rfl (hb hby d22_0) rfl rfl  k_) ?_
  obtain ⟨cq1, kq1, q1a, q1b, q1c⟩ := isOf hZ e0 E_x
  obtain ⟨_, T1, L1, X1, hQ1, st1⟩ := own_callV X0 hx (y := own_m6) (z := own_m6) hown (mvT hZ (hw _ (List.mem_of_getElem? (i := 70) rfl))) (mvT hZ (hw _ (List.mem_of_getElem? (i := 71) rfl))) (notFace_of_selects (args := #[]) (mvT hZ (hw _ (List.mem_of_getElem? (i := 73) rfl)))) (mvT hZ (hw _ (List.mem_of_getElem? (i := 73) rfl))) (mvT hZ (hw _ (List.mem_of_getElem? (i := 72) rfl))) (by decide) (backOf (W := 0) (rm_len l Z a0 hw [] x t kt (6 : Int32) [(.int (x0.toInt8.toInt32)), (.int (x1.toInt8.toInt32)), (.int (x2.toInt8.toInt32)), (.int (x3.toInt8.toInt32)), (.int (x4.toInt8.toInt32)), (.int (x5.toInt8.toInt32))] cz h0 n0 O0 E_x V_x C_x A_x SC hcz) hZ (hw _ (List.mem_of_getElem? (i := 74) rfl)) (hw _ (List.mem_of_getElem? (i := 6) rfl)) (by decide) (by decide)) q1a q1c (g := (mkF m 1 #[rv x, iv (2 : Int32), iv (6 : Int32), .unset, .unset] [(.ref x)])) rfl (by rw [hml]; rfl) (argsL := []) (rest := []) (lenOf pd___I rfl) rfl (by show 2 * 0 + _ ≤ _; exact Nat.le_of_eq rfl) (hb hby d22_1) rfl e0 (by decide) (by decide) (c' := 0) (s' := 0) rfl rfl
  clear q1a q1b q1c kq1 cq1
  obtain ⟨rfl, Nq1, eq1⟩ := hQ1
  have N1 := Fr.app N0 Nq1
  refine own_st (T' := T1) (g' := (mkF m 4 #[rv x, iv (2 : Int32), iv (6 : Int32), .unset, .unset] [(.int (6 : Int32))])) st1 ?_
  clear st1
  refine own_st (T' := T1) (g' := (mkF m 5 #[rv x, iv (2 : Int32), iv (6 : Int32), iv (6 : Int32), .unset] [])) (fun _ k_ => XS.istoreN X1.here hx rfl (hb hby d22_4) rfl (l' := #[rv x, iv (2 : Int32), iv (6 : Int32), iv (6 : Int32), .unset]) rfl k_) ?_
  refine own_st (T' := T1) (g' := (mkF m 6 #[rv x, iv (2 : Int32), iv (6 : Int32), iv (6 : Int32), .unset] [(.int (2 : Int32))])) (fun _ k_ => XS.iloadN X1.here hx rfl (hb hby d22_5) rfl  k_) ?_
  refine own_st (T' := T1) (g' := (mkF m 7 #[rv x, iv (2 : Int32), iv (6 : Int32), iv (6 : Int32), .unset] [(.int (6 : Int32)), (.int (2 : Int32))])) (fun _ k_ => XS.iloadN X1.here hx rfl (hb hby d22_6) rfl  k_) ?_
  refine own_st (T' := T1) (g' := (mkF m 8 #[rv x, iv (2 : Int32), iv (6 : Int32), iv (6 : Int32), .unset] [(.int (6 : Int32)), (.int (6 : Int32)), (.int (2 : Int32))])) (fun _ k_ => XS.iloadN X1.here hx rfl (hb hby d22_7) rfl  k_) ?_
  obtain ⟨_, T2, L2, X2, hQ2, st2⟩ := own_callS X1 hx (y := own_m10) hown (mvT hZ (hw _ (List.mem_of_getElem? (i := 105) rfl))) (mvT hZ (hw _ (List.mem_of_getElem? (i := 106) rfl))) (mvT hZ (hw _ (List.mem_of_getElem? (i := 6) rfl))) (mvT hZ (hw _ (List.mem_of_getElem? (i := 107) rfl))) (by decide) (backOf (W := 0) (rm_cbe l Z a0 hw [] (2 : Int32) (6 : Int32) (6 : Int32) fm h0 n0 O0 (by decide) (by decide) (by decide) SF hfm) hZ (hw _ (List.mem_of_getElem? (i := 107) rfl)) (hw _ (List.mem_of_getElem? (i := 6) rfl)) (by decide) (by decide)) (g := (mkF m 8 #[rv x, iv (2 : Int32), iv (6 : Int32), iv (6 : Int32), .unset] [(.int (6 : Int32)), (.int (6 : Int32)), (.int (2 : Int32))])) rfl (by rw [hml]; rfl) (argsL := [(.int (2 : Int32)), (.int (6 : Int32)), (.int (6 : Int32))]) (rest := []) (lenOf pd__III_V rfl) rfl (by show 2 * 0 + _ ≤ _; exact Nat.le_of_eq rfl) (hb hby d22_8) rfl eq1 (by decide) (by decide) (c' := 0) (s' := 0) rfl rfl
  obtain ⟨rfl, Nq2, eq2⟩ := hQ2
  have N2 := Fr.app N1 Nq2
  refine own_st (T' := T2) (g' := (mkF m 11 #[rv x, iv (2 : Int32), iv (6 : Int32), iv (6 : Int32), .unset] [])) st2 ?_
  clear st2
  refine own_st (T' := T2) (g' := (mkF m 12 #[rv x, iv (2 : Int32), iv (6 : Int32), iv (6 : Int32), .unset] [(.int (2 : Int32))])) (fun _ k_ => XS.iloadN X2.here hx rfl (hb hby d22_11) rfl  k_) ?_
  refine own_st (T' := T2) (g' := (mkF m 22 #[rv x, iv (2 : Int32), iv (6 : Int32), iv (6 : Int32), .unset] [])) (fun _ k_ => XS.ifYes X2.here hx rfl (pc0 := 12) (pc' := 22) rfl (hb hby d22_12) rfl ((if0 _ _).trans (feq (by decide : ¬ ((2 : Int32) = (0 : Int32)))).2) (by decide) (by decide) k_) ?_
  refine own_st (T' := T2) (g' := (mkF m 23 #[rv x, iv (2 : Int32), iv (6 : Int32), iv (6 : Int32), .unset] [(.int (6 : Int32))])) (fun _ k_ => XS.iloadN X2.here hx rfl (hb hby d22_22) rfl  k_) ?_
  refine own_st (T' := T2) (g' := (mkF m 24 #[rv x, iv (2 : Int32), iv (6 : Int32), iv (6 : Int32), .unset] [(.int (2 : Int32)), (.int (6 : Int32))])) (fun _ k_ => XS.iloadN X2.here hx rfl (hb hby d22_23) rfl  k_) ?_
  refine own_st (T' := T2) (g' := (mkF m 25 #[rv x, iv (2 : Int32), iv (6 : Int32), iv (6 : Int32), .unset] [(.int (4 : Int32))])) (fun _ k_ => XS.isub X2.here hx rfl (hb hby d22_24) rfl k_) ?_
  refine own_st (T' := T2) (g' := (mkF m 27 #[rv x, iv (2 : Int32), iv (6 : Int32), iv (6 : Int32), iv (4 : Int32)] [])) (fun _ k_ => XS.istore X2.here hx rfl (hb hby d22_25) rfl (l' := #[rv x, iv (2 : Int32), iv (6 : Int32), iv (6 : Int32), iv (4 : Int32)]) rfl k_) ?_
  refine own_st (T' := T2) (g' := (mkF m 28 #[rv x, iv (2 : Int32), iv (6 : Int32), iv (6 : Int32), iv (4 : Int32)] [(.ref x)])) (fun _ k_ => XS.aloadN X2.here hx rfl (hb hby d22_27) rfl rfl  k_) ?_
  obtain ⟨cq3, kq3, q3a, q3b, q3c⟩ := isOf hZ eq2 E_x
  obtain ⟨_, T3, L3, X3, hQ3, st3⟩ := own_callV X2 hx (y := own_m7) (z := own_m7) hown (mvT hZ (hw _ (List.mem_of_getElem? (i := 20) rfl))) (mvT hZ (hw _ (List.mem_of_getElem? (i := 21) rfl))) (notFace_of_selects (args := #[]) (mvT hZ (hw _ (List.mem_of_getElem? (i := 23) rfl)))) (mvT hZ (hw _ (List.mem_of_getElem? (i := 23) rfl))) (mvT hZ (hw _ (List.mem_of_getElem? (i := 22) rfl))) (by decide) (backOf (W := 0) (rm_isl1 l Z a0 hw [] x cz h0 n0 O0 E_x C_x SC hcz) hZ (hw _ (List.mem_of_getElem? (i := 24) rfl)) (hw _ (List.mem_of_getElem? (i := 6) rfl)) (by decide) (by decide)) q3a q3c (g := (mkF m 28 #[rv x, iv (2 : Int32), iv (6 : Int32), iv (6 : Int32), iv (4 : Int32)] [(.ref x)])) rfl (by rw [hml]; rfl) (argsL := []) (rest := []) (lenOf pd___Z rfl) rfl (by show 2 * 0 + _ ≤ _; exact Nat.le_of_eq rfl) (hb hby d22_28) rfl eq2 (by decide) (by decide) (c' := 0) (s' := 0) rfl rfl
  clear q3a q3b q3c kq3 cq3
  obtain ⟨rfl, Nq3, eq3⟩ := hQ3
  have N3 := Fr.app N2 Nq3
  refine own_st (T' := T3) (g' := (mkF m 31 #[rv x, iv (2 : Int32), iv (6 : Int32), iv (6 : Int32), iv (4 : Int32)] [(.int (1 : Int32))])) st3 ?_
  clear st3
  refine own_st (T' := T3) (g' := (mkF m 34 #[rv x, iv (2 : Int32), iv (6 : Int32), iv (6 : Int32), iv (4 : Int32)] [])) (fun _ k_ => XS.ifNo X3.here hx rfl (hb hby d22_31) rfl ((if0 _ _).trans (feq (by decide : ¬ ((1 : Int32) = (0 : Int32)))).1) k_) ?_
  refine own_st (T' := T3) (g' := (mkF m 35 #[rv x, iv (2 : Int32), iv (6 : Int32), iv (6 : Int32), iv (4 : Int32)] [(.ref x)])) (fun _ k_ => XS.aloadN X3.here hx rfl (hb hby d22_34) rfl rfl  k_) ?_
  obtain ⟨T4, X4, e4, st4⟩ := getF X3 hx hZ hown (host := "") (Or.inl (hw _ (List.mem_of_getElem? (i := 27) rfl))) Via.refl eq3 V_x (g := (mkF m 35 #[rv x, iv (2 : Int32), iv (6 : Int32), iv (6 : Int32), iv (4 : Int32)] [(.ref x)])) rfl rfl (hb hby d22_35)
  refine own_st (T' := T4) (g' := (mkF m 38 #[rv x, iv (2 : Int32), iv (6 : Int32), iv (6 : Int32), iv (4 : Int32)] [(.ref t)])) st4 ?_
  clear st4
  refine own_st (T' := T4) (g' := (mkF m 39 #[rv x, iv (2 : Int32), iv (6 : Int32), iv (6 : Int32), iv (4 : Int32)] [(.int (2 : Int32)), (.ref t)])) (fun _ k_ => XS.iloadN X4.here hx rfl (hb hby d22_38) rfl  k_) ?_
  refine own_st (T' := T4) (g' := (mkF m 41 #[rv x, iv (2 : Int32), iv (6 : Int32), iv (6 : Int32), iv (4 : Int32)] [(.int (4 : Int32)), (.int (2 : Int32)), (.ref t)])) (fun _ k_ => XS.iload X4.here hx rfl (hb hby d22_39) rfl  k_) ?_
  obtain ⟨_, T5, L5, X5, hQ5, st5⟩ := own_callS X4 hx (y := own_m24) hown (mvT hZ (hw _ (List.mem_of_getElem? (i := 115) rfl))) (mvT hZ (hw _ (List.mem_of_getElem? (i := 116) rfl))) (mvT hZ (hw _ (List.mem_of_getElem? (i := 30) rfl))) (mvT hZ (hw _ (List.mem_of_getElem? (i := 117) rfl))) (by decide) (backOf (W := 0) (rm_nws_1 l Z a0 hw [] t kt x0 x1 x2 x3 x4 x5 h0 n0 O0 A_x) hZ (hw _ (List.mem_of_getElem? (i := 117) rfl)) (hw _ (List.mem_of_getElem? (i := 30) rfl)) (by decide) (by decide)) (g := (mkF m 41 #[rv x, iv (2 : Int32), iv (6 : Int32), iv (6 : Int32), iv (4 : Int32)] [(.int (4 : Int32)), (.int (2 : Int32)), (.ref t)])) rfl (by rw [hml]; rfl) (argsL := [(.ref t), (.int (2 : Int32)), (.int (4 : Int32))]) (rest := []) (lenOf pd___BII_Ljava_lang_String_ rfl) rfl (by show 2 * 0 + _ ≤ _; exact Nat.le_of_eq rfl) (hb hby d22_41) rfl e4 (by decide) (by decide) (c' := 2) (s' := 8) rfl rfl
  obtain ⟨b5, u5, ku5, rfl, Nq5, K5, fq5_0, fq5_1, fq5_2, fq5_3, xq5_fresh_b⟩ := hQ5
  have N5 := Fr.app N3 Nq5
  refine own_st (T' := T5) (g' := (mkF m 44 #[rv x, iv (2 : Int32), iv (6 : Int32), iv (6 : Int32), iv (4 : Int32)] [(.ref b5)])) st5 ?_
  clear st5
  refine own_st (T' := T5) (g' := (mkF m 57 #[rv x, iv (2 : Int32), iv (6 : Int32), iv (6 : Int32), iv (4 : Int32)] [(.ref b5)])) (fun _ k_ => XS.goto X5.here hx rfl (pc0 := 44) (pc' := 57) rfl (hb hby d22_44) (by decide) (by decide) k_) ?_
  have f6 : Keep h0 T5.heap [] := (Keep.refl h0 []).trans K5 all0
  exact own_retA X5 hx hret rfl rfl hlk (hb hby d22_57) (by decide) (by decide) ⟨b5, u5, ku5, rfl, N5, f6, fq5_0, fq5_1, fq5_2, fq5_3, (Nat.le_trans (Keep.refl h0 []).1 xq5_fresh_b)⟩
theorem ef_su1_1 (m : MethodId) (x0 : Addr) (x1 : Int32) : entryFrame m #[(.ref x0), (.int x1)] 2 = mkF m 0 #[rv x0, iv x1] [] := by first | (simp [entryFrame, mkF, argsToLocals, Value.category]; done) | rfl
def Q_su1_1 (Z : State) (x : Addr) (t : Addr) (kt : ClassId) (c0 : Int32) (c2 : Int32) (c3 : Int32) (c4 : Int32) (c5 : Int32) (cz : Int32) (fm : Value) (h0 : Heap) (n0 : Nat) (v : Option Value) (h : Heap) (L : List Loc) : Prop := ∃ (b : Addr) (u : Addr) (ku : ClassId), (v = some (.ref b)) ∧ (Fr n0 L) ∧ (Keep h0 h []) ∧ (Exa Z h b "java/lang/String") ∧ (Fld Z h b "java/lang/String" "coder" "B" (.int (0 : Int32))) ∧ (Fld Z h b "java/lang/String" "value" "[B" (.ref u)) ∧ (Arv Z h u ku .byte (4 : Int32) [(.int (c2.toInt8.toInt32)), (.int (c3.toInt8.toInt32)), (.int (c4.toInt8.toInt32)), (.int (c5.toInt8.toInt32))] (.int (0 : Int32))) ∧ (h0.size ≤ b)
set_option maxRecDepth 65536 in
set_option maxHeartbeats 40000000 in
theorem rm_su1_1 (l : Launch) (Z : State) (a0 : Array Value) (hw : ∀ d ∈ tables_1, d.before a0 Z = true) (ws : List Jvm.Cond) (x : Addr) (t : Addr) (kt : ClassId) (c0 : Int32) (c2 : Int32) (c3 : Int32) (c4 : Int32) (c5 : Int32) (cz : Int32) (fm : Value) (h0 : Heap) (n0 : Nat) (O0 : Old Z n0 h0) (E_x : Exa Z h0 x "java/lang/String") (V_x : Fld Z h0 x "java/lang/String" "value" "[B" (.ref t)) (C_x : Fld Z h0 x "java/lang/String" "coder" "B" (.int (0 : Int32))) (A_x : Arv Z h0 t kt .byte (6 : Int32) [(.int (c0.toInt8.toInt32)), (.int ((58 : Int32).toInt8.toInt32)), (.int (c2.toInt8.toInt32)), (.int (c3.toInt8.toInt32)), (.int (c4.toInt8.toInt32)), (.int (c5.toInt8.toInt32))] (.int (0 : Int32))) (SC : Sta Z Z.heap "java/lang/String" "COMPACT_STRINGS" "Z" (.int cz)) (hcz : ¬ cz = (0 : Int32)) (SF : Sta Z Z.heap "jdk/internal/util/Preconditions" "SIOOBE_FORMATTER" "Ljava/util/function/BiFunction;" fm) (hfm : fm.isRef = true) :
    MetFree l own_m20 (head1 (Jvm.Cond.code own_m20 jdk_42_method_91_code 2 (some (.object "java/lang/String")) :: ws) ({ frames := 5, cells := 2, slots := 8, locals := 102 } : Room)) (fun ar_ U => ar_ = #[(.ref x), (.int (2 : Int32))] ∧ Z.Warmed39 U.vm ∧ U.heap = h0) (fun _ _ _ _ _ => True) (fun _ U o U' => ∃ v L, o = .returned v ∧ Q_su1_1 Z x t kt c0 c2 c3 c4 c5 cz fm h0 n0 v U'.heap L ∧ FrameEnd U o U' L ({ frames := 5, cells := 2, slots := 8, locals := 102 } : Room).cells ({ frames := 5, cells := 2, slots := 8, locals := 102 } : Room).slots) := by
  refine MetFree.of_bodySF (plainFor_of_name pn_1) hisR ?_
  intro p e s m args below meth c s₁ Bd hml0 hP hK
  obtain ⟨rfl, hZ, hh⟩ := hP
  have hx := Bd.exec
  have hby := Bd.bytes
  have hml : c.maxLocals = 2 := hml0
  have hown : s.vm.findClass "java/lang/String" = some m.cls := findClass_of_methodNamed Bd.named
  have hnm := (name_of_methodNamed Bd.named Bd.method).1
  have X0 : Stand p l e ({ frames := 5, cells := 2, slots := 8, locals := 102 } : Room) s m #[(.ref x), (.int (2 : Int32))] below meth c s₁ [] 0 0 := Stand.of_body Bd
  have e0 : s₁.heap = h0 := by rw [← hh, Bd.state]; rfl
  have N0 := Fr.nil n0
  have hret := Bd.returns
  have hlk : meth.locks = false := Bd.notSynchronized
  show own_E p e below s ({ frames := 5, cells := 2, slots := 8, locals := 102 } : Room).cells ({ frames := 5, cells := 2, slots := 8, locals := 102 } : Room).slots (Q_su1_1 Z x t kt c0 c2 c3 c4 c5 cz fm h0 n0) s₁ (entryFrame m #[(.ref x), (.int (2 : Int32))] 2)
  rw [ef_su1_1 m x (2 : Int32)]
  refine own_st (T' := s₁) (g' := (mkF m 1 #[rv x, iv (2 : Int32)] [(.ref x)])) (fun _ k_ => XS.aloadN X0.here hx rfl (hb hby d21_0) rfl rfl  k_) ?_
  refine own_st (T' := s₁) (g' := (mkF m 2 #[rv x, iv (2 : Int32)] [(.int (2 : Int32)), (.ref x)])) (fun _ k_ => XS.iloadN X0.here hx rfl (hb hby d21_1) rfl  k_) ?_
  refine own_st (T' := s₁) (g' := (mkF m 3 #[rv x, iv (2 : Int32)] [(.ref x), (.int (2 : Int32)), (.ref x)])) (fun _ k_ => XS.aloadN X0.here hx rfl (hb hby d21_2) rfl rfl  k_) ?_
  obtain ⟨cq1, kq1, q1a, q1b, q1c⟩ := isOf hZ e0 E_x
  obtain ⟨_, T1, L1, X1, hQ1, st1⟩ := own_callV X0 hx (y := own_m6) (z := own_m6) hown (mvT hZ (hw _ (List.mem_of_getElem? (i := 70) rfl))) (mvT hZ (hw _ (List.mem_of_getElem? (i := 71) rfl))) (notFace_of_selects (args := #[]) (mvT hZ (hw _ (List.mem_of_getElem? (i := 73) rfl)))) (mvT hZ (hw _ (List.mem_of_getElem? (i := 73) rfl))) (mvT hZ (hw _ (List.mem_of_getElem? (i := 72) rfl))) (by decide) (backOf (W := 2) (rm_len l Z a0 hw [] x t kt (6 : Int32) [(.int (c0.toInt8.toInt32)), (.int ((58 : Int32).toInt8.toInt32)), (.int (c2.toInt8.toInt32)), (.int (c3.toInt8.toInt32)), (.int (c4.toInt8.toInt32)), (.int (c5.toInt8.toInt32))] cz h0 n0 O0 E_x V_x C_x A_x SC hcz) hZ (hw _ (List.mem_of_getElem? (i := 74) rfl)) (hw _ (List.mem_of_getElem? (i := 6) rfl)) (by decide) (by decide)) q1a q1c (g := (mkF m 3 #[rv x, iv (2 : Int32)] [(.ref x), (.int (2 : Int32)), (.ref x)])) rfl (by rw [hml]; rfl) (argsL := []) (rest := [(.int (2 : Int32)), (.ref x)]) (lenOf pd___I rfl) rfl (by show 2 * 0 + _ ≤ _; exact Nat.le_of_eq rfl) (hb hby d21_3) rfl e0 (by decide) (by decide) (c' := 0) (s' := 0) rfl rfl
  clear q1a q1b q1c kq1 cq1
  obtain ⟨rfl, Nq1, eq1⟩ := hQ1
  have N1 := Fr.app N0 Nq1
  refine own_st (T' := T1) (g' := (mkF m 6 #[rv x, iv (2 : Int32)] [(.int (6 : Int32)), (.int (2 : Int32)), (.ref x)])) st1 ?_
  clear st1
  obtain ⟨cq2, kq2, q2a, q2b, q2c⟩ := isOf hZ eq1 E_x
  obtain ⟨_, T2, L2, X2, hQ2, st2⟩ := own_callV X1 hx (y := own_m19) (z := own_m19) hown (mvT hZ (hw _ (List.mem_of_getElem? (i := 100) rfl))) (mvT hZ (hw _ (List.mem_of_getElem? (i := 101) rfl))) (notFace_of_selects (args := #[]) (mvT hZ (hw _ (List.mem_of_getElem? (i := 103) rfl)))) (mvT hZ (hw _ (List.mem_of_getElem? (i := 103) rfl))) (mvT hZ (hw _ (List.mem_of_getElem? (i := 102) rfl))) (by decide) (backOf (W := 0) (rm_sub_1 l Z a0 hw [] x t kt c0 (58 : Int32) c2 c3 c4 c5 cz fm h0 n0 O0 E_x V_x C_x A_x SC hcz SF hfm) hZ (hw _ (List.mem_of_getElem? (i := 104) rfl)) (hw _ (List.mem_of_getElem? (i := 6) rfl)) (by decide) (by decide)) q2a q2c (g := (mkF m 6 #[rv x, iv (2 : Int32)] [(.int (6 : Int32)), (.int (2 : Int32)), (.ref x)])) rfl (by rw [hml]; rfl) (argsL := [(.int (2 : Int32)), (.int (6 : Int32))]) (rest := []) (lenOf pd__II_Ljava_lang_String_ rfl) rfl (by show 2 * 0 + _ ≤ _; exact Nat.le_of_eq rfl) (hb hby d21_6) rfl eq1 (by decide) (by decide) (c' := 2) (s' := 8) rfl rfl
  clear q2a q2b q2c kq2 cq2
  obtain ⟨b2, u2, ku2, rfl, Nq2, K2, fq2_0, fq2_1, fq2_2, fq2_3, xq2_fresh_b⟩ := hQ2
  have N2 := Fr.app N1 Nq2
  refine own_st (T' := T2) (g' := (mkF m 9 #[rv x, iv (2 : Int32)] [(.ref b2)])) st2 ?_
  clear st2
  have f3 : Keep h0 T2.heap [] := (Keep.refl h0 []).trans K2 all0
  exact own_retA X2 hx hret rfl rfl hlk (hb hby d21_9) (by decide) (by decide) ⟨b2, u2, ku2, rfl, N2, f3, fq2_0, fq2_1, fq2_2, fq2_3, (Nat.le_trans (Keep.refl h0 []).1 xq2_fresh_b)⟩
theorem ef_lp_1 (m : MethodId) (x0 : Addr) : entryFrame m #[(.ref x0)] 1 = mkF m 0 #[rv x0] [] := by first | (simp [entryFrame, mkF, argsToLocals, Value.category]; done) | rfl
def Q_lp_1 (Z : State) (x : Addr) (t : Addr) (kt : ClassId) (c0 : Int32) (c2 : Int32) (c3 : Int32) (c4 : Int32) (c5 : Int32) (cz : Int32) (fm : Value) (h0 : Heap) (n0 : Nat) (v : Option Value) (h : Heap) (L : List Loc) : Prop := ∃ (b : Addr) (u : Addr) (ku : ClassId), (v = some (.ref b)) ∧ (Fr n0 L) ∧ (Keep h0 h []) ∧ (Exa Z h b "java/lang/String") ∧ (Fld Z h b "java/lang/String" "coder" "B" (.int (0 : Int32))) ∧ (Fld Z h b "java/lang/String" "value" "[B" (.ref u)) ∧ (Arv Z h u ku .byte (4 : Int32) [(.int (c2.toInt8.toInt32)), (.int (c3.toInt8.toInt32)), (.int (c4.toInt8.toInt32)), (.int (c5.toInt8.toInt32))] (.int (0 : Int32))) ∧ (h0.size ≤ b)
set_option maxRecDepth 65536 in
set_option maxHeartbeats 40000000 in
theorem rm_lp_1 (l : Launch) (Z : State) (a0 : Array Value) (hw : ∀ d ∈ tables_1, d.before a0 Z = true) (ws : List Jvm.Cond) (x : Addr) (t : Addr) (kt : ClassId) (c0 : Int32) (c2 : Int32) (c3 : Int32) (c4 : Int32) (c5 : Int32) (cz : Int32) (fm : Value) (h0 : Heap) (n0 : Nat) (O0 : Old Z n0 h0) (E_x : Exa Z h0 x "java/lang/String") (V_x : Fld Z h0 x "java/lang/String" "value" "[B" (.ref t)) (C_x : Fld Z h0 x "java/lang/String" "coder" "B" (.int (0 : Int32))) (A_x : Arv Z h0 t kt .byte (6 : Int32) [(.int (c0.toInt8.toInt32)), (.int ((58 : Int32).toInt8.toInt32)), (.int (c2.toInt8.toInt32)), (.int (c3.toInt8.toInt32)), (.int (c4.toInt8.toInt32)), (.int (c5.toInt8.toInt32))] (.int (0 : Int32))) (hn2 : ¬ (c2.toInt8.toInt32) = ((58 : Int32).toInt8.toInt32)) (hn3 : ¬ (c3.toInt8.toInt32) = ((58 : Int32).toInt8.toInt32)) (hn4 : ¬ (c4.toInt8.toInt32) = ((58 : Int32).toInt8.toInt32)) (hn5 : ¬ (c5.toInt8.toInt32) = ((58 : Int32).toInt8.toInt32)) (SC : Sta Z Z.heap "java/lang/String" "COMPACT_STRINGS" "Z" (.int cz)) (hcz : ¬ cz = (0 : Int32)) (SF : Sta Z Z.heap "jdk/internal/util/Preconditions" "SIOOBE_FORMATTER" "Ljava/util/function/BiFunction;" fm) (hfm : fm.isRef = true) :
    MetFree l own_m21 (head1 (Jvm.Cond.code own_m21 prog_26_method_7_code 1 (some (.object "java/lang/String")) :: ws) ({ frames := 6, cells := 2, slots := 8, locals := 115 } : Room)) (fun ar_ U => ar_ = #[(.ref x)] ∧ Z.Warmed39 U.vm ∧ U.heap = h0) (fun _ _ _ _ _ => True) (fun _ U o U' => ∃ v L, o = .returned v ∧ Q_lp_1 Z x t kt c0 c2 c3 c4 c5 cz fm h0 n0 v U'.heap L ∧ FrameEnd U o U' L ({ frames := 6, cells := 2, slots := 8, locals := 115 } : Room).cells ({ frames := 6, cells := 2, slots := 8, locals := 115 } : Room).slots) := by
  refine MetFree.of_bodySF (plainFor_of_name pn_6) hisR ?_
  intro p e s m args below meth c s₁ Bd hml0 hP hK
  obtain ⟨rfl, hZ, hh⟩ := hP
  have hx := Bd.exec
  have hby := Bd.bytes
  have hml : c.maxLocals = 1 := hml0
  have hown : s.vm.findClass "com/example/sheafgate/sheafgate/store/SetSpecs" = some m.cls := findClass_of_methodNamed Bd.named
  have hnm := (name_of_methodNamed Bd.named Bd.method).1
  have X0 : Stand p l e ({ frames := 6, cells := 2, slots := 8, locals := 115 } : Room) s m #[(.ref x)] below meth c s₁ [] 0 0 := Stand.of_body Bd
  have e0 : s₁.heap = h0 := by rw [← hh, Bd.state]; rfl
  have N0 := Fr.nil n0
  have hret := Bd.returns
  have hlk : meth.locks = false := Bd.notSynchronized
  show own_E p e below s ({ frames := 6, cells := 2, slots := 8, locals := 115 } : Room).cells ({ frames := 6, cells := 2, slots := 8, locals := 115 } : Room).slots (Q_lp_1 Z x t kt c0 c2 c3 c4 c5 cz fm h0 n0) s₁ (entryFrame m #[(.ref x)] 1)
  rw [ef_lp_1 m x]
  refine own_st (T' := s₁) (g' := (mkF m 1 #[rv x] [(.ref x)])) (fun _ k_ => XS.aloadN X0.here hx rfl (hb hby d13_0) rfl rfl  k_) ?_
  refine own_st (T' := s₁) (g' := (mkF m 2 #[rv x] [(.ref x), (.ref x)])) (fun _ k_ => XS.aloadN X0.here hx rfl (hb hby d13_1) rfl rfl  k_) ?_
  refine own_st (T' := s₁) (g' := (mkF m 4 #[rv x] [(.int (58 : Int32)), (.ref x), (.ref x)])) (fun _ k_ => XS.bipush X0.here hx rfl (hb hby d13_2) k_) ?_
  obtain ⟨cq1, kq1, q1a, q1b, q1c⟩ := isOf hZ e0 E_x
  obtain ⟨_, T1, L1, X1, hQ1, st1⟩ := own_callV X0 hx (y := own_m18) (z := own_m18) hown (mvT hZ (hw _ (List.mem_of_getElem? (i := 65) rfl))) (mvT hZ (hw _ (List.mem_of_getElem? (i := 66) rfl))) (notFace_of_selects (args := #[]) (mvT hZ (hw _ (List.mem_of_getElem? (i := 68) rfl)))) (mvT hZ (hw _ (List.mem_of_getElem? (i := 68) rfl))) (mvT hZ (hw _ (List.mem_of_getElem? (i := 67) rfl))) (by decide) (backOf (W := 1) (rm_li1 l Z a0 hw [] x t kt c0 (58 : Int32) c2 c3 c4 c5 cz h0 n0 O0 E_x V_x C_x A_x SC hcz) hZ (hw _ (List.mem_of_getElem? (i := 69) rfl)) (hw _ (List.mem_of_getElem? (i := 6) rfl)) (by decide) (by decide)) q1a q1c (g := (mkF m 4 #[rv x] [(.int (58 : Int32)), (.ref x), (.ref x)])) rfl (by rw [hml]; rfl) (argsL := [(.int (58 : Int32))]) (rest := [(.ref x)]) (lenOf pd__I_I rfl) rfl (by show 2 * 0 + _ ≤ _; exact Nat.le_of_eq rfl) (hb hby d13_4) rfl e0 (by decide) (by decide) (c' := 0) (s' := 0) rfl rfl
  clear q1a q1b q1c kq1 cq1
  obtain ⟨rfl, Nq1, eq1⟩ := hQ1
  have N1 := Fr.app N0 Nq1
  refine own_st (T' := T1) (g' := (mkF m 7 #[rv x] [(.int (own_la c0 (58 : Int32) c2 c3 c4 c5)), (.ref x)])) st1 ?_
  clear st1
  rw [own_la1 c0 c2 c3 c4 c5 hn2 hn3 hn4 hn5]
  refine own_st (T' := T1) (g' := (mkF m 8 #[rv x] [(.int (1 : Int32)), (.int (1 : Int32)), (.ref x)])) (fun _ k_ => XS.iconst X1.here hx rfl (hb hby d13_7) k_) ?_
  refine own_st (T' := T1) (g' := (mkF m 9 #[rv x] [(.int (2 : Int32)), (.ref x)])) (fun _ k_ => XS.iadd X1.here hx rfl (hb hby d13_8) rfl k_) ?_
  obtain ⟨cq2, kq2, q2a, q2b, q2c⟩ := isOf hZ eq1 E_x
  obtain ⟨_, T2, L2, X2, hQ2, st2⟩ := own_callV X1 hx (y := own_m20) (z := own_m20) hown (mvT hZ (hw _ (List.mem_of_getElem? (i := 95) rfl))) (mvT hZ (hw _ (List.mem_of_getElem? (i := 96) rfl))) (notFace_of_selects (args := #[]) (mvT hZ (hw _ (List.mem_of_getElem? (i := 98) rfl)))) (mvT hZ (hw _ (List.mem_of_getElem? (i := 98) rfl))) (mvT hZ (hw _ (List.mem_of_getElem? (i := 97) rfl))) (by decide) (backOf (W := 0) (rm_su1_1 l Z a0 hw [] x t kt c0 c2 c3 c4 c5 cz fm h0 n0 O0 E_x V_x C_x A_x SC hcz SF hfm) hZ (hw _ (List.mem_of_getElem? (i := 99) rfl)) (hw _ (List.mem_of_getElem? (i := 6) rfl)) (by decide) (by decide)) q2a q2c (g := (mkF m 9 #[rv x] [(.int (2 : Int32)), (.ref x)])) rfl (by rw [hml]; rfl) (argsL := [(.int (2 : Int32))]) (rest := []) (lenOf pd__I_Ljava_lang_String_ rfl) rfl (by show 2 * 0 + _ ≤ _; exact Nat.le_of_eq rfl) (hb hby d13_9) rfl eq1 (by decide) (by decide) (c' := 2) (s' := 8) rfl rfl
  clear q2a q2b q2c kq2 cq2
  obtain ⟨b2, u2, ku2, rfl, Nq2, K2, fq2_0, fq2_1, fq2_2, fq2_3, xq2_fresh_b⟩ := hQ2
  have N2 := Fr.app N1 Nq2
  refine own_st (T' := T2) (g' := (mkF m 12 #[rv x] [(.ref b2)])) st2 ?_
  clear st2
  have f3 : Keep h0 T2.heap [] := (Keep.refl h0 []).trans K2 all0
  exact own_retA X2 hx hret rfl rfl hlk (hb hby d13_12) (by decide) (by decide) ⟨b2, u2, ku2, rfl, N2, f3, fq2_0, fq2_1, fq2_2, fq2_3, (Nat.le_trans (Keep.refl h0 []).1 xq2_fresh_b)⟩
theorem own_la2 (c0 c1 c3 c4 c5 : Int32) (hn3 : ¬ (c3.toInt8.toInt32) = ((58 : Int32).toInt8.toInt32)) (hn4 : ¬ (c4.toInt8.toInt32) = ((58 : Int32).toInt8.toInt32)) (hn5 : ¬ (c5.toInt8.toInt32) = ((58 : Int32).toInt8.toInt32)) : own_la c0 c1 (58 : Int32) c3 c4 c5 = 2 := by unfold own_la; rw [if_neg hn5, if_neg hn4, if_neg hn3, if_pos rfl]
theorem ef_crb_2 (m : MethodId) (x0 : Addr) (x1 : Int32) (x2 : Int32) : entryFrame m #[(.ref x0), (.int x1), (.int x2)] 5 = mkF m 0 #[rv x0, iv x1, iv x2, .unset, .unset] [] := by first | (simp [entryFrame, mkF, argsToLocals, Value.category]; done) | rfl
def Q_crb_2 (Z : State) (t : Addr) (kt : ClassId) (x0 : Int32) (x1 : Int32) (x2 : Int32) (x3 : Int32) (x4 : Int32) (x5 : Int32) (h0 : Heap) (n0 : Nat) (v : Option Value) (h : Heap) (L : List Loc) : Prop := ∃ (u : Addr) (ku : ClassId), (v = some (.ref u)) ∧ (Fr n0 L) ∧ (Keep h0 h []) ∧ (Arv Z h u ku .byte (3 : Int32) [(.int (x3.toInt8.toInt32)), (.int (x4.toInt8.toInt32)), (.int (x5.toInt8.toInt32))] (.int (0 : Int32))) ∧ (h0.size ≤ u)
set_option maxRecDepth 65536 in
set_option maxHeartbeats 40000000 in
theorem rm_crb_2 (l : Launch) (Z : State) (a0 : Array Value) (hw : ∀ d ∈ tables_1, d.before a0 Z = true) (ws : List Jvm.Cond) (t : Addr) (kt : ClassId) (x0 : Int32) (x1 : Int32) (x2 : Int32) (x3 : Int32) (x4 : Int32) (x5 : Int32) (h0 : Heap) (n0 : Nat) (O0 : Old Z n0 h0) (A_x : Arv Z h0 t kt .byte (6 : Int32) [(.int (x0.toInt8.toInt32)), (.int (x1.toInt8.toInt32)), (.int (x2.toInt8.toInt32)), (.int (x3.toInt8.toInt32)), (.int (x4.toInt8.toInt32)), (.int (x5.toInt8.toInt32))] (.int (0 : Int32))) :
    MetFree l own_m22 (head1 (Jvm.Cond.code own_m22 jdk_65_method_133_code 5 (some (.array .byte)) :: ws) ({ frames := 1, cells := 1, slots := 3, locals := 40 } : Room)) (fun ar_ U => ar_ = #[(.ref t), (.int (3 : Int32)), (.int (6 : Int32))] ∧ Z.Warmed39 U.vm ∧ U.heap = h0) (fun _ _ _ _ _ => True) (fun _ U o U' => ∃ v L, o = .returned v ∧ Q_crb_2 Z t kt x0 x1 x2 x3 x4 x5 h0 n0 v U'.heap L ∧ FrameEnd U o U' L ({ frames := 1, cells := 1, slots := 3, locals := 40 } : Room).cells ({ frames := 1, cells := 1, slots := 3, locals := 40 } : Room).slots) := by
  refine MetFree.of_bodySF (plainFor_of_name pn_3) hisR ?_
  intro p e s m args below meth c s₁ Bd hml0 hP hK
  obtain ⟨rfl, hZ, hh⟩ := hP
  have hx := Bd.exec
  have hby := Bd.bytes
  have hml : c.maxLocals = 5 := hml0
  have hown : s.vm.findClass "java/util/Arrays" = some m.cls := findClass_of_methodNamed Bd.named
  have hnm := (name_of_methodNamed Bd.named Bd.method).1
  have X0 : Stand p l e ({ frames := 1, cells := 1, slots := 3, locals := 40 } : Room) s m #[(.ref t), (.int (3 : Int32)), (.int (6 : Int32))] below meth c s₁ [] 0 0 := Stand.of_body Bd
  have e0 : s₁.heap = h0 := by rw [← hh, Bd.state]; rfl
  have N0 := Fr.nil n0
  have hret := Bd.returns
  have hlk : meth.locks = false := Bd.notSynchronized
  show own_E p e below s ({ frames := 1, cells := 1, slots := 3, locals := 40 } : Room).cells ({ frames := 1, cells := 1, slots := 3, locals := 40 } : Room).slots (Q_crb_2 Z t kt x0 x1 x2 x3 x4 x5 h0 n0) s₁ (entryFrame m #[(.ref t), (.int (3 : Int32)), (.int (6 : Int32))] 5)
  rw [ef_crb_2 m t (3 : Int32) (6 : Int32)]
  refine own_st (T' := s₁) (g' := (mkF m 1 #[rv t, iv (3 : Int32), iv (6 : Int32), .unset, .unset] [(.int (3 : Int32))])) (fun _ k_ => XS.iloadN X0.here hx rfl (hb hby d28_0) rfl  k_) ?_
  refine own_st (T' := s₁) (g' := (mkF m 2 #[rv t, iv (3 : Int32), iv (6 : Int32), .unset, .unset] [(.int (6 : Int32)), (.int (3 : Int32))])) (fun _ k_ => XS.iloadN X0.here hx rfl (hb hby d28_1) rfl  k_) ?_
  obtain ⟨_, T1, L1, X1, hQ1, st1⟩ := own_callS X0 hx (y := own_m11) hown (mvT hZ (hw _ (List.mem_of_getElem? (i := 126) rfl))) (mvT hZ (hw _ (List.mem_of_getElem? (i := 127) rfl))) (mvT hZ (hw _ (List.mem_of_getElem? (i := 121) rfl))) (mvT hZ (hw _ (List.mem_of_getElem? (i := 128) rfl))) (by decide) (backOf (W := 0) (rm_ckl l Z a0 hw [] (3 : Int32) (6 : Int32) h0 n0 O0 (by decide)) hZ (hw _ (List.mem_of_getElem? (i := 128) rfl)) (hw _ (List.mem_of_getElem? (i := 121) rfl)) (by decide) (by decide)) (g := (mkF m 2 #[rv t, iv (3 : Int32), iv (6 : Int32), .unset, .unset] [(.int (6 : Int32)), (.int (3 : Int32))])) rfl (by rw [hml]; rfl) (argsL := [(.int (3 : Int32)), (.int (6 : Int32))]) (rest := []) (lenOf pd__II_V rfl) rfl (by show 2 * 0 + _ ≤ _; exact Nat.le_of_eq rfl) (hb hby d28_2) rfl e0 (by decide) (by decide) (c' := 0) (s' := 0) rfl rfl
  obtain ⟨rfl, Nq1, eq1⟩ := hQ1
  have N1 := Fr.app N0 Nq1
  refine own_st (T' := T1) (g' := (mkF m 5 #[rv t, iv (3 : Int32), iv (6 : Int32), .unset, .unset] [])) st1 ?_
  clear st1
  refine own_st (T' := T1) (g' := (mkF m 6 #[rv t, iv (3 : Int32), iv (6 : Int32), .unset, .unset] [(.int (6 : Int32))])) (fun _ k_ => XS.iloadN X1.here hx rfl (hb hby d28_5) rfl  k_) ?_
  refine own_st (T' := T1) (g' := (mkF m 7 #[rv t, iv (3 : Int32), iv (6 : Int32), .unset, .unset] [(.int (3 : Int32)), (.int (6 : Int32))])) (fun _ k_ => XS.iloadN X1.here hx rfl (hb hby d28_6) rfl  k_) ?_
  refine own_st (T' := T1) (g' := (mkF m 8 #[rv t, iv (3 : Int32), iv (6 : Int32), .unset, .unset] [(.int (3 : Int32))])) (fun _ k_ => XS.isub X1.here hx rfl (hb hby d28_7) rfl k_) ?_
  refine own_st (T' := T1) (g' := (mkF m 9 #[rv t, iv (3 : Int32), iv (6 : Int32), iv (3 : Int32), .unset] [])) (fun _ k_ => XS.istoreN X1.here hx rfl (hb hby d28_8) rfl (l' := #[rv t, iv (3 : Int32), iv (6 : Int32), iv (3 : Int32), .unset]) rfl k_) ?_
  refine own_st (T' := T1) (g' := (mkF m 10 #[rv t, iv (3 : Int32), iv (6 : Int32), iv (3 : Int32), .unset] [(.int (3 : Int32))])) (fun _ k_ => XS.iloadN X1.here hx rfl (hb hby d28_9) rfl  k_) ?_
  obtain ⟨T2, h2, k2, X2, e2, E2, A2, st2⟩ := newP X1 hx hZ (hw _ (List.mem_of_getElem? (i := 8) rfl)) eq1 (g := (mkF m 10 #[rv t, iv (3 : Int32), iv (6 : Int32), iv (3 : Int32), .unset] [(.int (3 : Int32))])) rfl (hb hby d28_10) rfl (by decide) (cap := 3) (by decide) (by decide) (by decide) (by decide)
  obtain ⟨b2, g2⟩ : ∃ z, z = h0.size := ⟨_, rfl⟩
  rw [← g2] at A2 st2
  have fr2 : n0 ≤ b2 := Nat.le_trans (own_z O0) (Nat.le_of_eq g2.symm)
  have sz2 : h0.size ≤ b2 := Nat.le_trans (Keep.refl h0 []).1 (Nat.le_of_eq g2.symm)
  have V2 : Arv Z h2 b2 k2 .byte (3 : Int32) [(.int (0 : Int32)), (.int (0 : Int32)), (.int (0 : Int32))] (.int (0 : Int32)) := (Arv.new A2 (by decide)).pad (pad_rep [] (.int (0 : Int32)) 3)
  refine own_st (T' := T2) (g' := (mkF m 12 #[rv t, iv (3 : Int32), iv (6 : Int32), iv (3 : Int32), .unset] [(.ref b2)])) st2 ?_
  clear st2
  refine own_st (T' := T2) (g' := (mkF m 14 #[rv t, iv (3 : Int32), iv (6 : Int32), iv (3 : Int32), rv b2] [])) (fun _ k_ => XS.astore X2.here hx rfl (hb hby d28_12) rfl rfl (l' := #[rv t, iv (3 : Int32), iv (6 : Int32), iv (3 : Int32), rv b2]) rfl k_) ?_
  refine own_st (T' := T2) (g' := (mkF m 15 #[rv t, iv (3 : Int32), iv (6 : Int32), iv (3 : Int32), rv b2] [(.ref t)])) (fun _ k_ => XS.aloadN X2.here hx rfl (hb hby d28_14) rfl rfl  k_) ?_
  refine own_st (T' := T2) (g' := (mkF m 16 #[rv t, iv (3 : Int32), iv (6 : Int32), iv (3 : Int32), rv b2] [(.int (3 : Int32)), (.ref t)])) (fun _ k_ => XS.iloadN X2.here hx rfl (hb hby d28_15) rfl  k_) ?_
  refine own_st (T' := T2) (g' := (mkF m 18 #[rv t, iv (3 : Int32), iv (6 : Int32), iv (3 : Int32), rv b2] [(.ref b2), (.int (3 : Int32)), (.ref t)])) (fun _ k_ => XS.aload X2.here hx rfl (hb hby d28_16) rfl rfl  k_) ?_
  refine own_st (T' := T2) (g' := (mkF m 19 #[rv t, iv (3 : Int32), iv (6 : Int32), iv (3 : Int32), rv b2] [(.int (0 : Int32)), (.ref b2), (.int (3 : Int32)), (.ref t)])) (fun _ k_ => XS.iconst X2.here hx rfl (hb hby d28_18) k_) ?_
  refine own_st (T' := T2) (g' := (mkF m 20 #[rv t, iv (3 : Int32), iv (6 : Int32), iv (3 : Int32), rv b2] [(.ref t), (.int (0 : Int32)), (.ref b2), (.int (3 : Int32)), (.ref t)])) (fun _ k_ => XS.aloadN X2.here hx rfl (hb hby d28_19) rfl rfl  k_) ?_
  have f4 : Arv Z h2 t kt .byte (6 : Int32) [(.int (x0.toInt8.toInt32)), (.int (x1.toInt8.toInt32)), (.int (x2.toInt8.toInt32)), (.int (x3.toInt8.toInt32)), (.int (x4.toInt8.toInt32)), (.int (x5.toInt8.toInt32))] (.int (0 : Int32)) := A_x.ext E2
  obtain ⟨cl3, Ar3, -, S3, N3, -, -⟩ := id f4
  refine own_st (T' := T2) (g' := (mkF m 21 #[rv t, iv (3 : Int32), iv (6 : Int32), iv (3 : Int32), rv b2] [(.int (6 : Int32)), (.int (0 : Int32)), (.ref b2), (.int (3 : Int32)), (.ref t)])) (fun t_ k_ => X2.arraylength hx (by rw [e2]; exact Ar3.1) (State.isArrayOf_alike hZ.alike Ar3.2.1) (g := (mkF m 20 #[rv t, iv (3 : Int32), iv (6 : Int32), iv (3 : Int32), rv b2] [(.ref t), (.int (0 : Int32)), (.ref b2), (.int (3 : Int32)), (.ref t)])) rfl rfl (hb hby d28_20) _ (by rw [len_of S3 N3]; exact k_)) ?_
  refine own_st (T' := T2) (g' := (mkF m 22 #[rv t, iv (3 : Int32), iv (6 : Int32), iv (3 : Int32), rv b2] [(.int (3 : Int32)), (.int (6 : Int32)), (.int (0 : Int32)), (.ref b2), (.int (3 : Int32)), (.ref t)])) (fun _ k_ => XS.iloadN X2.here hx rfl (hb hby d28_21) rfl  k_) ?_
  refine own_st (T' := T2) (g' := (mkF m 23 #[rv t, iv (3 : Int32), iv (6 : Int32), iv (3 : Int32), rv b2] [(.int (3 : Int32)), (.int (0 : Int32)), (.ref b2), (.int (3 : Int32)), (.ref t)])) (fun _ k_ => XS.isub X2.here hx rfl (hb hby d28_22) rfl k_) ?_
  refine own_st (T' := T2) (g' := (mkF m 24 #[rv t, iv (3 : Int32), iv (6 : Int32), iv (3 : Int32), rv b2] [(.int (3 : Int32)), (.int (3 : Int32)), (.int (0 : Int32)), (.ref b2), (.int (3 : Int32)), (.ref t)])) (fun _ k_ => XS.iloadN X2.here hx rfl (hb hby d28_23) rfl  k_) ?_
  have f5 : Old Z n0 h2 := O0.ext E2
  obtain ⟨_, T6, L6, X6, hQ6, st6⟩ := own_callS X2 hx (y := own_m8) hown (mvT hZ (hw _ (List.mem_of_getElem? (i := 129) rfl))) (mvT hZ (hw _ (List.mem_of_getElem? (i := 92) rfl))) (mvT hZ (hw _ (List.mem_of_getElem? (i := 93) rfl))) (mvT hZ (hw _ (List.mem_of_getElem? (i := 94) rfl))) (by decide) (backOf (W := 4) (rm_min l Z a0 hw [] (3 : Int32) (3 : Int32) h2 n0 f5 (by decide)) hZ (hw _ (List.mem_of_getElem? (i := 94) rfl)) (hw _ (List.mem_of_getElem? (i := 93) rfl)) (by decide) (by decide)) (g := (mkF m 24 #[rv t, iv (3 : Int32), iv (6 : Int32), iv (3 : Int32), rv b2] [(.int (3 : Int32)), (.int (3 : Int32)), (.int (0 : Int32)), (.ref b2), (.int (3 : Int32)), (.ref t)])) rfl (by rw [hml]; rfl) (argsL := [(.int (3 : Int32)), (.int (3 : Int32))]) (rest := [(.int (0 : Int32)), (.ref b2), (.int (3 : Int32)), (.ref t)]) (lenOf pd__II_I rfl) rfl (by show 2 * 0 + _ ≤ _; exact Nat.le_of_eq rfl) (hb hby d28_24) rfl e2 (by decide) (by decide) (c' := 1) (s' := 3) rfl rfl
  obtain ⟨rfl, Nq6, eq6⟩ := hQ6
  have N6 := Fr.app N1 Nq6
  refine own_st (T' := T6) (g' := (mkF m 27 #[rv t, iv (3 : Int32), iv (6 : Int32), iv (3 : Int32), rv b2] [(.int (3 : Int32)), (.int (0 : Int32)), (.ref b2), (.int (3 : Int32)), (.ref t)])) st6 ?_
  clear st6
  obtain ⟨T7, h7, L7, X7, e7, N7, K7, Va7, st7⟩ := cpA X6 hx hZ hown (hw _ (List.mem_of_getElem? (i := 130) rfl)) (hw _ (List.mem_of_getElem? (i := 133) rfl)) (hw _ (List.mem_of_getElem? (i := 131) rfl)) (hw _ (List.mem_of_getElem? (i := 132) rfl)) eq6 f4 V2 (sp := (3 : Int32)) (dp := (0 : Int32)) (nn := (3 : Int32)) (Or.inl ⟨rfl, rfl⟩) (by decide) (by decide) (by decide) (by decide) (by decide) (us := [(.int (x3.toInt8.toInt32)), (.int (x4.toInt8.toInt32)), (.int (x5.toInt8.toInt32))]) rfl (Nat.le_of_ble_eq_true rfl) N6 fr2 (g := (mkF m 27 #[rv t, iv (3 : Int32), iv (6 : Int32), iv (3 : Int32), rv b2] [(.int (3 : Int32)), (.int (0 : Int32)), (.ref b2), (.int (3 : Int32)), (.ref t)])) rfl (by rw [hml]; rfl) (rest := []) rfl (hb hby d28_27) (by decide) (W := 0) (by show 2 * 0 + _ ≤ _; exact Nat.le_of_eq rfl) (by decide)
  have V7 : Arv Z h7 b2 k2 .byte (3 : Int32) [(.int (x3.toInt8.toInt32)), (.int (x4.toInt8.toInt32)), (.int (x5.toInt8.toInt32))] (.int (0 : Int32)) := Va7
  refine own_st (T' := T7) (g' := (mkF m 30 #[rv t, iv (3 : Int32), iv (6 : Int32), iv (3 : Int32), rv b2] [])) st7 ?_
  clear st7
  refine own_st (T' := T7) (g' := (mkF m 32 #[rv t, iv (3 : Int32), iv (6 : Int32), iv (3 : Int32), rv b2] [(.ref b2)])) (fun _ k_ => XS.aload X7.here hx rfl (hb hby d28_30) rfl rfl  k_) ?_
  have f8 : Keep h0 h2 [] := (Keep.refl h0 []).ext E2
  have f9 : Keep h0 h7 [] := f8.trans K7 (allS (Or.inr sz2) all0)
  exact own_retA X7 hx hret rfl rfl hlk (hb hby d28_32) (by decide) (by decide) (by rw [e7]; exact ⟨b2, k2, rfl, N7, f9, V7, sz2⟩)
theorem ef_cra_2 (m : MethodId) (x0 : Addr) (x1 : Int32) (x2 : Int32) : entryFrame m #[(.ref x0), (.int x1), (.int x2)] 3 = mkF m 0 #[rv x0, iv x1, iv x2] [] := by first | (simp [entryFrame, mkF, argsToLocals, Value.category]; done) | rfl
def Q_cra_2 (Z : State) (t : Addr) (kt : ClassId) (x0 : Int32) (x1 : Int32) (x2 : Int32) (x3 : Int32) (x4 : Int32) (x5 : Int32) (h0 : Heap) (n0 : Nat) (v : Option Value) (h : Heap) (L : List Loc) : Prop := ∃ (u : Addr) (ku : ClassId), (v = some (.ref u)) ∧ (Fr n0 L) ∧ (Keep h0 h []) ∧ (Arv Z h u ku .byte (3 : Int32) [(.int (x3.toInt8.toInt32)), (.int (x4.toInt8.toInt32)), (.int (x5.toInt8.toInt32))] (.int (0 : Int32))) ∧ (h0.size ≤ u)
set_option maxRecDepth 65536 in
set_option maxHeartbeats 40000000 in
theorem rm_cra_2 (l : Launch) (Z : State) (a0 : Array Value) (hw : ∀ d ∈ tables_1, d.before a0 Z = true) (ws : List Jvm.Cond) (t : Addr) (kt : ClassId) (x0 : Int32) (x1 : Int32) (x2 : Int32) (x3 : Int32) (x4 : Int32) (x5 : Int32) (h0 : Heap) (n0 : Nat) (O0 : Old Z n0 h0) (A_x : Arv Z h0 t kt .byte (6 : Int32) [(.int (x0.toInt8.toInt32)), (.int (x1.toInt8.toInt32)), (.int (x2.toInt8.toInt32)), (.int (x3.toInt8.toInt32)), (.int (x4.toInt8.toInt32)), (.int (x5.toInt8.toInt32))] (.int (0 : Int32))) :
    MetFree l own_m23 (head1 (Jvm.Cond.code own_m23 jdk_65_method_132_code 3 (some (.array .byte)) :: ws) ({ frames := 2, cells := 1, slots := 3, locals := 56 } : Room)) (fun ar_ U => ar_ = #[(.ref t), (.int (3 : Int32)), (.int (6 : Int32))] ∧ Z.Warmed39 U.vm ∧ U.heap = h0) (fun _ _ _ _ _ => True) (fun _ U o U' => ∃ v L, o = .returned v ∧ Q_cra_2 Z t kt x0 x1 x2 x3 x4 x5 h0 n0 v U'.heap L ∧ FrameEnd U o U' L ({ frames := 2, cells := 1, slots := 3, locals := 56 } : Room).cells ({ frames := 2, cells := 1, slots := 3, locals := 56 } : Room).slots) := by
  refine MetFree.of_bodySF (plainFor_of_name pn_3) hisR ?_
  intro p e s m args below meth c s₁ Bd hml0 hP hK
  obtain ⟨rfl, hZ, hh⟩ := hP
  have hx := Bd.exec
  have hby := Bd.bytes
  have hml : c.maxLocals = 3 := hml0
  have hown : s.vm.findClass "java/util/Arrays" = some m.cls := findClass_of_methodNamed Bd.named
  have hnm := (name_of_methodNamed Bd.named Bd.method).1
  have X0 : Stand p l e ({ frames := 2, cells := 1, slots := 3, locals := 56 } : Room) s m #[(.ref t), (.int (3 : Int32)), (.int (6 : Int32))] below meth c s₁ [] 0 0 := Stand.of_body Bd
  have e0 : s₁.heap = h0 := by rw [← hh, Bd.state]; rfl
  have N0 := Fr.nil n0
  have hret := Bd.returns
  have hlk : meth.locks = false := Bd.notSynchronized
  show own_E p e below s ({ frames := 2, cells := 1, slots := 3, locals := 56 } : Room).cells ({ frames := 2, cells := 1, slots := 3, locals := 56 } : Room).slots (Q_cra_2 Z t kt x0 x1 x2 x3 x4 x5 h0 n0) s₁ (entryFrame m #[(.ref t), (.int (3 : Int32)), (.int (6 : Int32))] 3)
  rw [ef_cra_2 m t (3 : Int32) (6 : Int32)]
  refine own_st (T' := s₁) (g' := (mkF m 1 #[rv t, iv (3 : Int32), iv (6 : Int32)] [(.int (3 : Int32))])) (fun _ k_ => XS.iloadN X0.here hx rfl (hb hby d27_0) rfl  k_) ?_
  refine own_st (T' := s₁) (g' := (mkF m 10 #[rv t, iv (3 : Int32), iv (6 : Int32)] [])) (fun _ k_ => XS.ifYes X0.here hx rfl (pc0 := 1) (pc' := 10) rfl (hb hby d27_1) rfl ((if0 _ _).trans (feq (by decide : ¬ ((3 : Int32) = (0 : Int32)))).2) (by decide) (by decide) k_) ?_
  refine own_st (T' := s₁) (g' := (mkF m 11 #[rv t, iv (3 : Int32), iv (6 : Int32)] [(.ref t)])) (fun _ k_ => XS.aloadN X0.here hx rfl (hb hby d27_10) rfl rfl  k_) ?_
  refine own_st (T' := s₁) (g' := (mkF m 12 #[rv t, iv (3 : Int32), iv (6 : Int32)] [(.int (3 : Int32)), (.ref t)])) (fun _ k_ => XS.iloadN X0.here hx rfl (hb hby d27_11) rfl  k_) ?_
  refine own_st (T' := s₁) (g' := (mkF m 13 #[rv t, iv (3 : Int32), iv (6 : Int32)] [(.int (6 : Int32)), (.int (3 : Int32)), (.ref t)])) (fun _ k_ => XS.iloadN X0.here hx rfl (hb hby d27_12) rfl  k_) ?_
  obtain ⟨_, T1, L1, X1, hQ1, st1⟩ := own_callS X0 hx (y := own_m22) hown (mvT hZ (hw _ (List.mem_of_getElem? (i := 123) rfl))) (mvT hZ (hw _ (List.mem_of_getElem? (i := 124) rfl))) (mvT hZ (hw _ (List.mem_of_getElem? (i := 121) rfl))) (mvT hZ (hw _ (List.mem_of_getElem? (i := 125) rfl))) (by decide) (backOf (W := 0) (rm_crb_2 l Z a0 hw [] t kt x0 x1 x2 x3 x4 x5 h0 n0 O0 A_x) hZ (hw _ (List.mem_of_getElem? (i := 125) rfl)) (hw _ (List.mem_of_getElem? (i := 121) rfl)) (by decide) (by decide)) (g := (mkF m 13 #[rv t, iv (3 : Int32), iv (6 : Int32)] [(.int (6 : Int32)), (.int (3 : Int32)), (.ref t)])) rfl (by rw [hml]; rfl) (argsL := [(.ref t), (.int (3 : Int32)), (.int (6 : Int32))]) (rest := []) (lenOf pd___BII__B rfl) rfl (by show 2 * 0 + _ ≤ _; exact Nat.le_of_eq rfl) (hb hby d27_13) rfl e0 (by decide) (by decide) (c' := 1) (s' := 3) rfl rfl
  obtain ⟨u1, ku1, rfl, Nq1, K1, fq1_0, xq1_fresh_u⟩ := hQ1
  have N1 := Fr.app N0 Nq1
  refine own_st (T' := T1) (g' := (mkF m 16 #[rv t, iv (3 : Int32), iv (6 : Int32)] [(.ref u1)])) st1 ?_
  clear st1
  have f2 : Keep h0 T1.heap [] := (Keep.refl h0 []).trans K1 all0
  exact own_retA X1 hx hret rfl rfl hlk (hb hby d27_16) (by decide) (by decide) ⟨u1, ku1, rfl, N1, f2, fq1_0, (Nat.le_trans (Keep.refl h0 []).1 xq1_fresh_u)⟩
theorem ef_nws_2 (m : MethodId) (x0 : Addr) (x1 : Int32) (x2 : Int32) : entryFrame m #[(.ref x0), (.int x1), (.int x2)] 3 = mkF m 0 #[rv x0, iv x1, iv x2] [] := by first | (simp [entryFrame, mkF, argsToLocals, Value.category]; done) | rfl
def Q_nws_2 (Z : State) (t : Addr) (kt : ClassId) (x0 : Int32) (x1 : Int32) (x2 : Int32) (x3 : Int32) (x4 : Int32) (x5 : Int32) (h0 : Heap) (n0 : Nat) (v : Option Value) (h : Heap) (L : List Loc) : Prop := ∃ (b : Addr) (u : Addr) (ku : ClassId), (v = some (.ref b)) ∧ (Fr n0 L) ∧ (Keep h0 h []) ∧ (Exa Z h b "java/lang/String") ∧ (Fld Z h b "java/lang/String" "coder" "B" (.int (0 : Int32))) ∧ (Fld Z h b "java/lang/String" "value" "[B" (.ref u)) ∧ (Arv Z h u ku .byte (3 : Int32) [(.int (x3.toInt8.toInt32)), (.int (x4.toInt8.toInt32)), (.int (x5.toInt8.toInt32))] (.int (0 : Int32))) ∧ (h0.size ≤ b)
set_option maxRecDepth 65536 in
set_option maxHeartbeats 40000000 in
theorem rm_nws_2 (l : Launch) (Z : State) (a0 : Array Value) (hw : ∀ d ∈ tables_1, d.before a0 Z = true) (ws : List Jvm.Cond) (t : Addr) (kt : ClassId) (x0 : Int32) (x1 : Int32) (x2 : Int32) (x3 : Int32) (x4 : Int32) (x5 : Int32) (h0 : Heap) (n0 : Nat) (O0 : Old Z n0 h0) (A_x : Arv Z h0 t kt .byte (6 : Int32) [(.int (x0.toInt8.toInt32)), (.int (x1.toInt8.toInt32)), (.int (x2.toInt8.toInt32)), (.int (x3.toInt8.toInt32)), (.int (x4.toInt8.toInt32)), (.int (x5.toInt8.toInt32))] (.int (0 : Int32))) :
    MetFree l own_m24 (head1 (Jvm.Cond.code own_m24 jdk_43_method_47_code 3 (some (.object "java/lang/String")) :: ws) ({ frames := 3, cells := 2, slots := 7, locals := 72 } : Room)) (fun ar_ U => ar_ = #[(.ref t), (.int (3 : Int32)), (.int (3 : Int32))] ∧ Z.Warmed39 U.vm ∧ U.heap = h0) (fun _ _ _ _ _ => True) (fun _ U o U' => ∃ v L, o = .returned v ∧ Q_nws_2 Z t kt x0 x1 x2 x3 x4 x5 h0 n0 v U'.heap L ∧ FrameEnd U o U' L ({ frames := 3, cells := 2, slots := 7, locals := 72 } : Room).cells ({ frames := 3, cells := 2, slots := 7, locals := 72 } : Room).slots) := by
  refine MetFree.of_bodySF (plainFor_of_name pn_5) hisR ?_
  intro p e s m args below meth c s₁ Bd hml0 hP hK
  obtain ⟨rfl, hZ, hh⟩ := hP
  have hx := Bd.exec
  have hby := Bd.bytes
  have hml : c.maxLocals = 3 := hml0
  have hown : s.vm.findClass "java/lang/StringLatin1" = some m.cls := findClass_of_methodNamed Bd.named
  have hnm := (name_of_methodNamed Bd.named Bd.method).1
  have X0 : Stand p l e ({ frames := 3, cells := 2, slots := 7, locals := 72 } : Room) s m #[(.ref t), (.int (3 : Int32)), (.int (3 : Int32))] below meth c s₁ [] 0 0 := Stand.of_body Bd
  have e0 : s₁.heap = h0 := by rw [← hh, Bd.state]; rfl
  have N0 := Fr.nil n0
  have hret := Bd.returns
  have hlk : meth.locks = false := Bd.notSynchronized
  show own_E p e below s ({ frames := 3, cells := 2, slots := 7, locals := 72 } : Room).cells ({ frames := 3, cells := 2, slots := 7, locals := 72 } : Room).slots (Q_nws_2 Z t kt x0 x1 x2 x3 x4 x5 h0 n0) s₁ (entryFrame m #[(.ref t), (.int (3 : Int32)), (.int (3 : Int32))] 3)
  rw [ef_nws_2 m t (3 : Int32) (3 : Int32)]
  refine own_st (T' := s₁) (g' := (mkF m 1 #[rv t, iv (3 : Int32), iv (3 : Int32)] [(.int (3 : Int32))])) (fun _ k_ => XS.iloadN X0.here hx rfl (hb hby d26_0) rfl  k_) ?_
  refine own_st (T' := s₁) (g' := (mkF m 7 #[rv t, iv (3 : Int32), iv (3 : Int32)] [])) (fun _ k_ => XS.ifYes X0.here hx rfl (pc0 := 1) (pc' := 7) rfl (hb hby d26_1) rfl ((if0 _ _).trans (feq (by decide : ¬ ((3 : Int32) = (0 : Int32)))).2) (by decide) (by decide) k_) ?_
  obtain ⟨T1, h1, X1, e1, E1, A1, D1, -, st1⟩ := newO X0 hx hZ hown (hw _ (List.mem_of_getElem? (i := 118) rfl)) (hw _ (List.mem_of_getElem? (i := 7) rfl)) (hw _ (List.mem_of_getElem? (i := 6) rfl)) e0 (g := (mkF m 7 #[rv t, iv (3 : Int32), iv (3 : Int32)] [])) rfl (hb hby d26_7) (by decide) (by decide)
  obtain ⟨b1, g1⟩ : ∃ z, z = h0.size := ⟨_, rfl⟩
  rw [← g1] at A1 D1 st1
  have fr1 : n0 ≤ b1 := Nat.le_trans (own_z O0) (Nat.le_of_eq g1.symm)
  have sz1 : h0.size ≤ b1 := Nat.le_trans (Keep.refl h0 []).1 (Nat.le_of_eq g1.symm)
  have F1_value : Fld Z h1 b1 "java/lang/String" "value" "[B" .null := D1 (Or.inr (hw _ (List.mem_of_getElem? (i := 9) rfl))) (ty := (.array .byte)) (by decide)
  have F1_coder : Fld Z h1 b1 "java/lang/String" "coder" "B" (.int (0 : Int32)) := D1 (Or.inr (hw _ (List.mem_of_getElem? (i := 10) rfl))) (ty := .byte) (by decide)
  refine own_st (T' := T1) (g' := (mkF m 10 #[rv t, iv (3 : Int32), iv (3 : Int32)] [(.ref b1)])) st1 ?_
  clear st1
  refine own_st (T' := T1) (g' := (mkF m 11 #[rv t, iv (3 : Int32), iv (3 : Int32)] [(.ref b1), (.ref b1)])) (fun _ k_ => XS.dup X1.here hx rfl (hb hby d26_10) rfl rfl k_) ?_
  refine own_st (T' := T1) (g' := (mkF m 12 #[rv t, iv (3 : Int32), iv (3 : Int32)] [(.ref t), (.ref b1), (.ref b1)])) (fun _ k_ => XS.aloadN X1.here hx rfl (hb hby d26_11) rfl rfl  k_) ?_
  refine own_st (T' := T1) (g' := (mkF m 13 #[rv t, iv (3 : Int32), iv (3 : Int32)] [(.int (3 : Int32)), (.ref t), (.ref b1), (.ref b1)])) (fun _ k_ => XS.iloadN X1.here hx rfl (hb hby d26_12) rfl  k_) ?_
  refine own_st (T' := T1) (g' := (mkF m 14 #[rv t, iv (3 : Int32), iv (3 : Int32)] [(.int (3 : Int32)), (.int (3 : Int32)), (.ref t), (.ref b1), (.ref b1)])) (fun _ k_ => XS.iloadN X1.here hx rfl (hb hby d26_13) rfl  k_) ?_
  refine own_st (T' := T1) (g' := (mkF m 15 #[rv t, iv (3 : Int32), iv (3 : Int32)] [(.int (3 : Int32)), (.int (3 : Int32)), (.int (3 : Int32)), (.ref t), (.ref b1), (.ref b1)])) (fun _ k_ => XS.iloadN X1.here hx rfl (hb hby d26_14) rfl  k_) ?_
  refine own_st (T' := T1) (g' := (mkF m 16 #[rv t, iv (3 : Int32), iv (3 : Int32)] [(.int (6 : Int32)), (.int (3 : Int32)), (.ref t), (.ref b1), (.ref b1)])) (fun _ k_ => XS.iadd X1.here hx rfl (hb hby d26_15) rfl k_) ?_
  have f2 : Arv Z h1 t kt .byte (6 : Int32) [(.int (x0.toInt8.toInt32)), (.int (x1.toInt8.toInt32)), (.int (x2.toInt8.toInt32)), (.int (x3.toInt8.toInt32)), (.int (x4.toInt8.toInt32)), (.int (x5.toInt8.toInt32))] (.int (0 : Int32)) := A_x.ext E1
  have f3 : Old Z n0 h1 := O0.ext E1
  have f4 : Keep h0 h1 [] := (Keep.refl h0 []).ext E1
  obtain ⟨_, T5, L5, X5, hQ5, st5⟩ := own_callS X1 hx (y := own_m23) hown (mvT hZ (hw _ (List.mem_of_getElem? (i := 119) rfl))) (mvT hZ (hw _ (List.mem_of_getElem? (i := 120) rfl))) (mvT hZ (hw _ (List.mem_of_getElem? (i := 121) rfl))) (mvT hZ (hw _ (List.mem_of_getElem? (i := 122) rfl))) (by decide) (backOf (W := 2) (rm_cra_2 l Z a0 hw [] t kt x0 x1 x2 x3 x4 x5 h1 n0 f3 f2) hZ (hw _ (List.mem_of_getElem? (i := 122) rfl)) (hw _ (List.mem_of_getElem? (i := 121) rfl)) (by decide) (by decide)) (g := (mkF m 16 #[rv t, iv (3 : Int32), iv (3 : Int32)] [(.int (6 : Int32)), (.int (3 : Int32)), (.ref t), (.ref b1), (.ref b1)])) rfl (by rw [hml]; rfl) (argsL := [(.ref t), (.int (3 : Int32)), (.int (6 : Int32))]) (rest := [(.ref b1), (.ref b1)]) (lenOf pd___BII__B rfl) rfl (by show 2 * 0 + _ ≤ _; exact Nat.le_of_eq rfl) (hb hby d26_16) rfl e1 (by decide) (by decide) (c' := 2) (s' := 7) rfl rfl
  obtain ⟨u5, ku5, rfl, Nq5, K5, fq5_0, xq5_fresh_u⟩ := hQ5
  have N5 := Fr.app N0 Nq5
  refine own_st (T' := T5) (g' := (mkF m 19 #[rv t, iv (3 : Int32), iv (3 : Int32)] [(.ref u5), (.ref b1), (.ref b1)])) st5 ?_
  clear st5
  refine own_st (T' := T5) (g' := (mkF m 20 #[rv t, iv (3 : Int32), iv (3 : Int32)] [(.int (0 : Int32)), (.ref u5), (.ref b1), (.ref b1)])) (fun _ k_ => XS.iconst X5.here hx rfl (hb hby d26_19) k_) ?_
  have f6 : Exa Z T5.heap b1 "java/lang/String" := A1.keep K5
  have f7 : Fld Z T5.heap b1 "java/lang/String" "value" "[B" .null := F1_value.keep K5 nin0
  have f8 : Fld Z T5.heap b1 "java/lang/String" "coder" "B" (.int (0 : Int32)) := F1_coder.keep K5 nin0
  have f9 : Old Z n0 T5.heap := f3.keep K5 all0
  obtain ⟨_, T10, L10, X10, hQ10, st10⟩ := own_callI X5 hx (y := own_m12) rfl hown (mvT hZ (hw _ (List.mem_of_getElem? (i := 134) rfl))) (mvT hZ (hw _ (List.mem_of_getElem? (i := 135) rfl))) (mvT hZ (hw _ (List.mem_of_getElem? (i := 136) rfl))) (by decide) (backOf (W := 1) (rm_inbb l Z a0 hw [] b1 u5 T5.heap n0 f9 f6 f7 f8 fr1) hZ (hw _ (List.mem_of_getElem? (i := 136) rfl)) (hw _ (List.mem_of_getElem? (i := 6) rfl)) (by decide) (by decide)) (g := (mkF m 20 #[rv t, iv (3 : Int32), iv (3 : Int32)] [(.int (0 : Int32)), (.ref u5), (.ref b1), (.ref b1)])) rfl (by rw [hml]; rfl) (a := b1) (argsL := [(.ref u5), (.int (0 : Int32))]) (rest := [(.ref b1)]) (lenOf pd___BB_V rfl) rfl (by show 2 * 0 + _ ≤ _; exact Nat.le_of_eq rfl) (hb hby d26_20) rfl rfl (by decide) (by decide) (c' := 2) (s' := 7) rfl rfl
  obtain ⟨rfl, Nq10, K10, fq10_0, fq10_1, fq10_2⟩ := hQ10
  have N10 := Fr.app N5 Nq10
  refine own_st (T' := T10) (g' := (mkF m 23 #[rv t, iv (3 : Int32), iv (3 : Int32)] [(.ref b1)])) st10 ?_
  clear st10
  have f11 : Keep h0 T5.heap [] := f4.trans K5 all0
  have f12 : Keep h0 T10.heap [] := f11.trans K10 (allS (Or.inr sz1) all0)
  have ne13 : b1 ≠ u5 := Nat.ne_of_lt (Nat.lt_of_lt_of_le A1.lt xq5_fresh_u)
  have f14 : Arv Z T10.heap u5 ku5 .byte (3 : Int32) [(.int (x3.toInt8.toInt32)), (.int (x4.toInt8.toInt32)), (.int (x5.toInt8.toInt32))] (.int (0 : Int32)) := fq5_0.keep K10 (ninS (Ne.symm ne13) nin0)
  exact own_retA X10 hx hret rfl rfl hlk (hb hby d26_23) (by decide) (by decide) ⟨b1, u5, ku5, rfl, N10, f12, fq10_0, fq10_1, fq10_2, f14, sz1⟩
theorem ef_sub_2 (m : MethodId) (x0 : Addr) (x1 : Int32) (x2 : Int32) : entryFrame m #[(.ref x0), (.int x1), (.int x2)] 5 = mkF m 0 #[rv x0, iv x1, iv x2, .unset, .unset] [] := by first | (simp [entryFrame, mkF, argsToLocals, Value.category]; done) | rfl
def Q_sub_2 (Z : State) (x : Addr) (t : Addr) (kt : ClassId) (x0 : Int32) (x1 : Int32) (x2 : Int32) (x3 : Int32) (x4 : Int32) (x5 : Int32) (cz : Int32) (fm : Value) (h0 : Heap) (n0 : Nat) (v : Option Value) (h : Heap) (L : List Loc) : Prop := ∃ (b : Addr) (u : Addr) (ku : ClassId), (v = some (.ref b)) ∧ (Fr n0 L) ∧ (Keep h0 h []) ∧ (Exa Z h b "java/lang/String") ∧ (Fld Z h b "java/lang/String" "coder" "B" (.int (0 : Int32))) ∧ (Fld Z h b "java/lang/String" "value" "[B" (.ref u)) ∧ (Arv Z h u ku .byte (3 : Int32) [(.int (x3.toInt8.toInt32)), (.int (x4.toInt8.toInt32)), (.int (x5.toInt8.toInt32))] (.int (0 : Int32))) ∧ (h0.size ≤ b)
set_option maxRecDepth 65536 in
set_option maxHeartbeats 40000000 in
theorem rm_sub_2 (l : Launch) (Z : State) (a0 : Array Value) (hw : ∀ d ∈ tables_1, d.before a0 Z = true) (ws : List Jvm.Cond) (x : Addr) (t : Addr) (kt : ClassId) (x0 : Int32) (x1 : Int32) (x2 : Int32) (x3 : Int32) (x4 : Int32) (x5 : Int32) (cz : Int32) (fm : Value) (h0 : Heap) (n0 : Nat) (O0 : Old Z n0 h0) (E_x : Exa Z h0 x "java/lang/String") (V_x : Fld Z h0 x "java/lang/String" "value" "[B" (.ref t)) (C_x : Fld Z h0 x "java/lang/String" "coder" "B" (.int (0 : Int32))) (A_x : Arv Z h0 t kt .byte (6 : Int32) [(.int (x0.toInt8.toInt32)), (.int (x1.toInt8.toInt32)), (.int (x2.toInt8.toInt32)), (.int (x3.toInt8.toInt32)), (.int (x4.toInt8.toInt32)), (.int (x5.toInt8.toInt32))] (.int (0 : Int32))) (SC : Sta Z Z.heap "java/lang/String" "COMPACT_STRINGS" "Z" (.int cz)) (hcz : ¬ cz = (0 : Int32)) (SF : Sta Z Z.heap "jdk/internal/util/Preconditions" "SIOOBE_FORMATTER" "Ljava/util/function/BiFunction;" fm) (hfm : fm.isRef = true) :
    MetFree l own_m19 (head1 (Jvm.Cond.code own_m19 jdk_42_method_92_code 5 (some (.object "java/lang/String")) :: ws) ({ frames := 4, cells := 2, slots := 7, locals := 86 } : Room)) (fun ar_ U => ar_ = #[(.ref x), (.int (3 : Int32)), (.int (6 : Int32))] ∧ Z.Warmed39 U.vm ∧ U.heap = h0) (fun _ _ _ _ _ => True) (fun _ U o U' => ∃ v L, o = .returned v ∧ Q_sub_2 Z x t kt x0 x1 x2 x3 x4 x5 cz fm h0 n0 v U'.heap L ∧ FrameEnd U o U' L ({ frames := 4, cells := 2, slots := 7, locals := 86 } : Room).cells ({ frames := 4, cells := 2, slots := 7, locals := 86 } : Room).slots) := by
  refine MetFree.of_bodySF (plainFor_of_name pn_1) hisR ?_
  intro p e s m args below meth c s₁ Bd hml0 hP hK
  obtain ⟨rfl, hZ, hh⟩ := hP
  have hx := Bd.exec
  have hby := Bd.bytes
  have hml : c.maxLocals = 5 := hml0
  have hown : s.vm.findClass "java/lang/String" = some m.cls := findClass_of_methodNamed Bd.named
  have hnm := (name_of_methodNamed Bd.named Bd.method).1
  have X0 : Stand p l e ({ frames := 4, cells := 2, slots := 7, locals := 86 } : Room) s m #[(.ref x), (.int (3 : Int32)), (.int (6 : Int32))] below meth c s₁ [] 0 0 := Stand.of_body Bd
  have e0 : s₁.heap = h0 := by rw [← hh, Bd.state]; rfl
  have N0 := Fr.nil n0
  have hret := Bd.returns
  have hlk : meth.locks = false := Bd.notSynchronized
  show own_E p e below s ({ frames := 4, cells := 2, slots := 7, locals := 86 } : Room).cells ({ frames := 4, cells := 2, slots := 7, locals := 86 } : Room).slots (Q_sub_2 Z x t kt x0 x1 x2 x3 x4 x5 cz fm h0 n0) s₁ (entryFrame m #[(.ref x), (.int (3 : Int32)), (.int (6 : Int32))] 5)
  rw [ef_sub_2 m x (3 : Int32) (6 : Int32)]
  refine own_st (T' := s₁) (g' := (mkF m 1 #[rv x, iv (3 : Int32), iv (6 : Int32), .unset, .unset] [(.ref x)])) (fun _ k_ => XS.aloadN X0.here hx rfl (hb hby d22_0) rfl rfl  k_) ?_
  obtain ⟨cq1, kq1, q1a, q1b, q1c⟩ := isOf hZ e0 E_x
  obtain ⟨_, T1, L1, X1, hQ1, st1⟩ := own_callV X0 hx (y := own_m6) (z := own_m6) hown (mvT hZ (hw _ (List.mem_of_getElem? (i := 70) rfl))) (mvT hZ (hw _ (List.mem_of_getElem? (i := 71) rfl))) (notFace_of_selects (args := #[]) (mvT hZ (hw _ (List.mem_of_getElem? (i := 73) rfl)))) (mvT hZ (hw _ (List.mem_of_getElem? (i := 73) rfl))) (mvT hZ (hw _ (List.mem_of_getElem? (i := 72) rfl))) (by decide) (backOf (W := 0) (rm_len l Z a0 hw [] x t kt (6 : Int32) [(.int (x0.toInt8.toInt32)), (.int (x1.toInt8.toInt32)), (.int (x2.toInt8.toInt32)), (.int (x3.toInt8.toInt32)), (.int (x4.toInt8.toInt32)), (.int (x5.toInt8.toInt32))] cz h0 n0 O0 E_x V_x C_x A_x SC hcz) hZ (hw _ (List.mem_of_getElem? (i := 74) rfl)) (hw _ (List.mem_of_getElem? (i := 6) rfl)) (by decide) (by decide)) q1a q1c (g := (mkF m 1 #[rv x, iv (3 : Int32), iv (6 : Int32), .unset, .unset] [(.ref x)])) rfl (by rw [hml]; rfl) (argsL := []) (rest := []) (lenOf pd___I rfl) rfl (by show 2 * 0 + _ ≤ _; exact Nat.le_of_eq rfl) (hb hby d22_1) rfl e0 (by decide) (by decide) (c' := 0) (s' := 0) rfl rfl
  clear q1a q1b q1c kq1 cq1
  obtain ⟨rfl, Nq1, eq1⟩ := hQ1
  have N1 := Fr.app N0 Nq1
  refine own_st (T' := T1) (g' := (mkF m 4 #[rv x, iv (3 : Int32), iv (6 : Int32), .unset, .unset] [(.int (6 : Int32))])) st1 ?_
  clear st1
  refine own_st (T' := T1) (g' := (mkF m 5 #[rv x, iv (3 : Int32), iv (6 : Int32), iv (6 : Int32), .unset] [])) (fun _ k_ => XS.istoreN X1.here hx rfl (hb hby d22_4) rfl (l' := #[rv x, iv (3 : Int32), iv (6 : Int32), iv (6 : Int32), .unset]) rfl k_) ?_
  refine own_st (T' := T1) (g' := (mkF m 6 #[rv x, iv (3 : Int32), iv (6 : Int32), iv (6 : Int32), .unset] [(.int (3 : Int32))])) (fun _ k_ => XS.iloadN X1.here hx rfl (hb hby d22_5) rfl  k_) ?_
  refine own_st (T' := T1) (g' := (mkF m 7 #[rv x, iv (3 : Int32), iv (6 : Int32), iv (6 : Int32), .unset] [(.int (6 : Int32)), (.int (3 : Int32))])) (fun _ k_ => XS.iloadN X1.here hx rfl (hb hby d22_6) rfl  k_) ?_
  refine own_st (T' := T1) (g' := (mkF m 8 #[rv x, iv (3 : Int32), iv (6 : Int32), iv (6 : Int32), .unset] [(.int (6 : Int32)), (.int (6 : Int32)), (.int (3 : Int32))])) (fun _ k_ => XS.iloadN X1.here hx rfl (hb hby d22_7) rfl  k_) ?_
  obtain ⟨_, T2, L2, X2, hQ2, st2⟩ := own_callS X1 hx (y := own_m10) hown (mvT hZ (hw _ (List.mem_of_getElem? (i := 105) rfl))) (mvT hZ (hw _ (List.mem_of_getElem? (i := 106) rfl))) (mvT hZ (hw _ (List.mem_of_getElem? (i := 6) rfl))) (mvT hZ (hw _ (List.mem_of_getElem? (i := 107) rfl))) (by decide) (backOf (W := 0) (rm_cbe l Z a0 hw [] (3 : Int32) (6 : Int32) (6 : Int32) fm h0 n0 O0 (by decide) (by decide) (by decide) SF hfm) hZ (hw _ (List.mem_of_getElem? (i := 107) rfl)) (hw _ (List.mem_of_getElem? (i := 6) rfl)) (by decide) (by decide)) (g := (mkF m 8 #[rv x, iv (3 : Int32), iv (6 : Int32), iv (6 : Int32), .unset] [(.int (6 : Int32)), (.int (6 : Int32)), (.int (3 : Int32))])) rfl (by rw [hml]; rfl) (argsL := [(.int (3 : Int32)), (.int (6 : Int32)), (.int (6 : Int32))]) (rest := []) (lenOf pd__III_V rfl) rfl (by show 2 * 0 + _ ≤ _; exact Nat.le_of_eq rfl) (hb hby d22_8) rfl eq1 (by decide) (by decide) (c' := 0) (s' := 0) rfl rfl
  obtain ⟨rfl, Nq2, eq2⟩ := hQ2
  have N2 := Fr.app N1 Nq2
  refine own_st (T' := T2) (g' := (mkF m 11 #[rv x, iv (3 : Int32), iv (6 : Int32), iv (6 : Int32), .unset] [])) st2 ?_
  clear st2
  refine own_st (T' := T2) (g' := (mkF m 12 #[rv x, iv (3 : Int32), iv (6 : Int32), iv (6 : Int32), .unset] [(.int (3 : Int32))])) (fun _ k_ => XS.iloadN X2.here hx rfl (hb hby d22_11) rfl  k_) ?_
  refine own_st (T' := T2) (g' := (mkF m 22 #[rv x, iv (3 : Int32), iv (6 : Int32), iv (6 : Int32), .unset] [])) (fun _ k_ => XS.ifYes X2.here hx rfl (pc0 := 12) (pc' := 22) rfl (hb hby d22_12) rfl ((if0 _ _).trans (feq (by decide : ¬ ((3 : Int32) = (0 : Int32)))).2) (by decide) (by decide) k_) ?_
  refine own_st (T' := T2) (g' := (mkF m 23 #[rv x, iv (3 : Int32), iv (6 : Int32), iv (6 : Int32), .unset] [(.int (6 : Int32))])) (fun _ k_ => XS.iloadN X2.here hx rfl (hb hby d22_22) rfl  k_) ?_
  refine own_st (T' := T2) (g' := (mkF m 24 #[rv x, iv (3 : Int32), iv (6 : Int32), iv (6 : Int32), .unset] [(.int (3 : Int32)), (.int (6 : Int32))])) (fun _ k_ => XS.iloadN X2.here hx rfl (hb hby d22_23) rfl  k_) ?_
  refine own_st (T' := T2) (g' := (mkF m 25 #[rv x, iv (3 : Int32), iv (6 : Int32), iv (6 : Int32), .unset] [(.int (3 : Int32))])) (fun _ k_ => XS.isub X2.here hx rfl (hb hby d22_24) rfl k_) ?_
  refine own_st (T' := T2) (g' := (mkF m 27 #[rv x, iv (3 : Int32), iv (6 : Int32), iv (6 : Int32), iv (3 : Int32)] [])) (fun _ k_ => XS.istore X2.here hx rfl (hb hby d22_25) rfl (l' := #[rv x, iv (3 : Int32), iv (6 : Int32), iv (6 : Int32), iv (3 : Int32)]) rfl k_) ?_
  refine own_st (T' := T2) (g' := (mkF m 28 #[rv x, iv (3 : Int32), iv (6 : Int32), iv (6 : Int32), iv (3 : Int32)] [(.ref x)])) (fun _ k_ => XS.aloadN X2.here hx rfl (hb hby d22_27) rfl rfl  k_) ?_
  obtain ⟨cq3, kq3, q3a, q3b, q3c⟩ := isOf hZ eq2 E_x
  obtain ⟨_, T3, L3, X3, hQ3, st3⟩ := own_callV X2 hx (y := own_m7) (z := own_m7) hown (mvT hZ (hw _ (List.mem_of_getElem? (i := 20) rfl))) (mvT hZ (hw _ (List.mem_of_getElem? (i := 21) rfl))) (notFace_of_selects (args := #[]) (mvT hZ (hw _ (List.mem_of_getElem? (i := 23) rfl)))) (mvT hZ (hw _ (List.mem_of_getElem? (i := 23) rfl))) (mvT hZ (hw _ (List.mem_of_getElem? (i := 22) rfl))) (by decide) (backOf (W := 0) (rm_isl1 l Z a0 hw [] x cz h0 n0 O0 E_x C_x SC hcz) hZ (hw _ (List.mem_of_getElem? (i := 24) rfl)) (hw _ (List.mem_of_getElem? (i := 6) rfl)) (by decide) (by decide)) q3a q3c (g := (mkF m 28 #[rv x, iv (3 : Int32), iv (6 : Int32), iv (6 : Int32), iv (3 : Int32)] [(.ref x)])) rfl (by rw [hml]; rfl) (argsL := []) (rest := []) (lenOf pd___Z rfl) rfl (by show 2 * 0 + _ ≤ _; exact Nat.le_of_eq rfl) (hb hby d22_28) rfl eq2 (by decide) (by decide) (c' := 0) (s' := 0) rfl rfl
  clear q3a q3b q3c kq3 cq3
  obtain ⟨rfl, Nq3, eq3⟩ := hQ3
  have N3 := Fr.app N2 Nq3
  refine own_st (T' := T3) (g' := (mkF m 31 #[rv x, iv (3 : Int32), iv (6 : Int32), iv (6 : Int32), iv (3 : Int32)] [(.int (1 : Int32))])) st3 ?_
  clear st3
  refine own_st (T' := T3) (g' := (mkF m 34 #[rv x, iv (3 : Int32), iv (6 : Int32), iv (6 : Int32), iv (3 : Int32)] [])) (fun _ k_ => XS.ifNo X3.here hx rfl (hb hby d22_31) rfl ((if0 _ _).trans (feq (by decide : ¬ ((1 : Int32) = (0 : Int32)))).1) k_) ?_
  refine own_st (T' := T3) (g' := (mkF m 35 #[rv x, iv (3 : Int32), iv (6 : Int32), iv (6 : Int32), iv (3 : Int32)] [(.ref x)])) (fun _ k_ => XS.aloadN X3.here hx rfl (hb hby d22_34) rfl rfl  k_) ?_
  obtain ⟨T4, X4, e4, st4⟩ := getF X3 hx hZ hown (host := "") (Or.inl (hw _ (List.mem_of_getElem? (i := 27) rfl))) Via.refl eq3 V_x (g := (mkF m 35 #[rv x, iv (3 : Int32), iv (6 : Int32), iv (6 : Int32), iv (3 : Int32)] [(.ref x)])) rfl rfl (hb hby d22_35)
  refine own_st (T' := T4) (g' := (mkF m 38 #[rv x, iv (3 : Int32), iv (6 : Int32), iv (6 : Int32), iv (3 : Int32)] [(.ref t)])) st4 ?_
  clear st4
  refine own_st (T' := T4) (g' := (mkF m 39 #[rv x, iv (3 : Int32), iv (6 : Int32), iv (6 : Int32), iv (3 : Int32)] [(.int (3 : Int32)), (.ref t)])) (fun _ k_ => XS.iloadN X4.here hx rfl (hb hby d22_38) rfl  k_) ?_
  refine own_st (T' := T4) (g' := (mkF m 41 #[rv x, iv (3 : Int32), iv (6 : Int32), iv (6 : Int32), iv (3 : Int32)] [(.int (3 : Int32)), (.int (3 : Int32)), (.ref t)])) (fun _ k_ => XS.iload X4.here hx rfl (hb hby d22_39) rfl  k_) ?_
  obtain ⟨_, T5, L5, X5, hQ5, st5⟩ := own_callS X4 hx (y := own_m24) hown (mvT hZ (hw _ (List.mem_of_getElem? (i := 115) rfl))) (mvT hZ (hw _ (List.mem_of_getElem? (i := 116) rfl))) (mvT hZ (hw _ (List.mem_of_getElem? (i := 30) rfl))) (mvT hZ (hw _ (List.mem_of_getElem? (i := 117) rfl))) (by decide) (backOf (W := 0) (rm_nws_2 l Z a0 hw [] t kt x0 x1 x2 x3 x4 x5 h0 n0 O0 A_x) hZ (hw _ (List.mem_of_getElem? (i := 117) rfl)) (hw _ (List.mem_of_getElem? (i := 30) rfl)) (by decide) (by decide)) (g := (mkF m 41 #[rv x, iv (3 : Int32), iv (6 : Int32), iv (6 : Int32), iv (3 : Int32)] [(.int (3 : Int32)), (.int (3 : Int32)), (.ref t)])) rfl (by rw [hml]; rfl) (argsL := [(.ref t), (.int (3 : Int32)), (.int (3 : Int32))]) (rest := []) (lenOf pd___BII_Ljava_lang_String_ rfl) rfl (by show 2 * 0 + _ ≤ _; exact Nat.le_of_eq rfl) (hb hby d22_41) rfl e4 (by decide) (by decide) (c' := 2) (s' := 7) rfl rfl
  obtain ⟨b5, u5, ku5, rfl, Nq5, K5, fq5_0, fq5_1, fq5_2, fq5_3, xq5_fresh_b⟩ := hQ5
  have N5 := Fr.app N3 Nq5
  refine own_st (T' := T5) (g' := (mkF m 44 #[rv x, iv (3 : Int32), iv (6 : Int32), iv (6 : Int32), iv (3 : Int32)] [(.ref b5)])) st5 ?_
  clear st5
  refine own_st (T' := T5) (g' := (mkF m 57 #[rv x, iv (3 : Int32), iv (6 : Int32), iv (6 : Int32), iv (3 : Int32)] [(.ref b5)])) (fun _ k_ => XS.goto X5.here hx rfl (pc0 := 44) (pc' := 57) rfl (hb hby d22_44) (by decide) (by decide) k_) ?_
  have f6 : Keep h0 T5.heap [] := (Keep.refl h0 []).trans K5 all0
  exact own_retA X5 hx hret rfl rfl hlk (hb hby d22_57) (by decide) (by decide) ⟨b5, u5, ku5, rfl, N5, f6, fq5_0, fq5_1, fq5_2, fq5_3, (Nat.le_trans (Keep.refl h0 []).1 xq5_fresh_b)⟩
theorem ef_su1_2 (m : MethodId) (x0 : Addr) (x1 : Int32) : entryFrame m #[(.ref x0), (.int x1)] 2 = mkF m 0 #[rv x0, iv x1] [] := by first | (simp [entryFrame, mkF, argsToLocals, Value.category]; done) | rfl
def Q_su1_2 (Z : State) (x : Addr) (t : Addr) (kt : ClassId) (c0 : Int32) (c1 : Int32) (c3 : Int32) (c4 : Int32) (c5 : Int32) (cz : Int32) (fm : Value) (h0 : Heap) (n0 : Nat) (v : Option Value) (h : Heap) (L : List Loc) : Prop := ∃ (b : Addr) (u : Addr) (ku : ClassId), (v = some (.ref b)) ∧ (Fr n0 L) ∧ (Keep h0 h []) ∧ (Exa Z h b "java/lang/String") ∧ (Fld Z h b "java/lang/String" "coder" "B" (.int (0 : Int32))) ∧ (Fld Z h b "java/lang/String" "value" "[B" (.ref u)) ∧ (Arv Z h u ku .byte (3 : Int32) [(.int (c3.toInt8.toInt32)), (.int (c4.toInt8.toInt32)), (.int (c5.toInt8.toInt32))] (.int (0 : Int32))) ∧ (h0.size ≤ b)
set_option maxRecDepth 65536 in
set_option maxHeartbeats 40000000 in
theorem rm_su1_2 (l : Launch) (Z : State) (a0 : Array Value) (hw : ∀ d ∈ tables_1, d.before a0 Z = true) (ws : List Jvm.Cond) (x : Addr) (t : Addr) (kt : ClassId) (c0 : Int32) (c1 : Int32) (c3 : Int32) (c4 : Int32) (c5 : Int32) (cz : Int32) (fm : Value) (h0 : Heap) (n0 : Nat) (O0 : Old Z n0 h0) (E_x : Exa Z h0 x "java/lang/String") (V_x : Fld Z h0 x "java/lang/String" "value" "[B" (.ref t)) (C_x : Fld Z h0 x "java/lang/String" "coder" "B" (.int (0 : Int32))) (A_x : Arv Z h0 t kt .byte (6 : Int32) [(.int (c0.toInt8.toInt32)), (.int (c1.toInt8.toInt32)), (.int ((58 : Int32).toInt8.toInt32)), (.int (c3.toInt8.toInt32)), (.int (c4.toInt8.toInt32)), (.int (c5.toInt8.toInt32))] (.int (0 : Int32))) (SC : Sta Z Z.heap "java/lang/String" "COMPACT_STRINGS" "Z" (.int cz)) (hcz : ¬ cz = (0 : Int32)) (SF : Sta Z Z.heap "jdk/internal/util/Preconditions" "SIOOBE_FORMATTER" "Ljava/util/function/BiFunction;" fm) (hfm : fm.isRef = true) :
    MetFree l own_m20 (head1 (Jvm.Cond.code own_m20 jdk_42_method_91_code 2 (some (.object "java/lang/String")) :: ws) ({ frames := 5, cells := 2, slots := 7, locals := 102 } : Room)) (fun ar_ U => ar_ = #[(.ref x), (.int (3 : Int32))] ∧ Z.Warmed39 U.vm ∧ U.heap = h0) (fun _ _ _ _ _ => True) (fun _ U o U' => ∃ v L, o = .returned v ∧ Q_su1_2 Z x t kt c0 c1 c3 c4 c5 cz fm h0 n0 v U'.heap L ∧ FrameEnd U o U' L ({ frames := 5, cells := 2, slots := 7, locals := 102 } : Room).cells ({ frames := 5, cells := 2, slots := 7, locals := 102 } : Room).slots) := by
  refine MetFree.of_bodySF (plainFor_of_name pn_1) hisR ?_
  intro p e s m args below meth c s₁ Bd hml0 hP hK
  obtain ⟨rfl, hZ, hh⟩ := hP
  have hx := Bd.exec
  have hby := Bd.bytes
  have hml : c.maxLocals = 2 := hml0
  have hown : s.vm.findClass "java/lang/String" = some m.cls := findClass_of_methodNamed Bd.named
  have hnm := (name_of_methodNamed Bd.named Bd.method).1
  have X0 : Stand p l e ({ frames := 5, cells := 2, slots := 7, locals := 102 } : Room) s m #[(.ref x), (.int (3 : Int32))] below meth c s₁ [] 0 0 := Stand.of_body Bd
  have e0 : s₁.heap = h0 := by rw [← hh, Bd.state]; rfl
  have N0 := Fr.nil n0
  have hret := Bd.returns
  have hlk : meth.locks = false := Bd.notSynchronized
  show own_E p e below s ({ frames := 5, cells := 2, slots := 7, locals := 102 } : Room).cells ({ frames := 5, cells := 2, slots := 7, locals := 102 } : Room).slots (Q_su1_2 Z x t kt c0 c1 c3 c4 c5 cz fm h0 n0) s₁ (entryFrame m #[(.ref x), (.int (3 : Int32))] 2)
  rw [ef_su1_2 m x (3 : Int32)]
  refine own_st (T' := s₁) (g' := (mkF m 1 #[rv x, iv (3 : Int32)] [(.ref x)])) (fun _ k_ => XS.aloadN X0.here hx rfl (hb hby d21_0) rfl rfl  k_) ?_
  refine own_st (T' := s₁) (g' := (mkF m 2 #[rv x, iv (3 : Int32)] [(.int (3 : Int32)), (.ref x)])) (fun _ k_ => XS.iloadN X0.here hx rfl (hb hby d21_1) rfl  k_) ?_
  refine own_st (T' := s₁) (g' := (mkF m 3 #[rv x, iv (3 : Int32)] [(.ref x), (.int (3 : Int32)), (.ref x)])) (fun _ k_ => XS.aloadN X0.here hx rfl (hb hby d21_2) rfl rfl  k_) ?_
  obtain ⟨cq1, kq1, q1a, q1b, q1c⟩ := isOf hZ e0 E_x
  obtain ⟨_, T1, L1, X1, hQ1, st1⟩ := own_callV X0 hx (y := own_m6) (z := own_m6) hown (mvT hZ (hw _ (List.mem_of_getElem? (i := 70) rfl))) (mvT hZ (hw _ (List.mem_of_getElem? (i := 71) rfl))) (notFace_of_selects (args := #[]) (mvT hZ (hw _ (List.mem_of_getElem? (i := 73) rfl)))) (mvT hZ (hw _ (List.mem_of_getElem? (i := 73) rfl))) (mvT hZ (hw _ (List.mem_of_getElem? (i := 72) rfl))) (by decide) (backOf (W := 2) (rm_len l Z a0 hw [] x t kt (6 : Int32) [(.int (c0.toInt8.toInt32)), (.int (c1.toInt8.toInt32)), (.int ((58 : Int32).toInt8.toInt32)), (.int (c3.toInt8.toInt32)), (.int (c4.toInt8.toInt32)), (.int (c5.toInt8.toInt32))] cz h0 n0 O0 E_x V_x C_x A_x SC hcz) hZ (hw _ (List.mem_of_getElem? (i := 74) rfl)) (hw _ (List.mem_of_getElem? (i := 6) rfl)) (by decide) (by decide)) q1a q1c (g := (mkF m 3 #[rv x, iv (3 : Int32)] [(.ref x), (.int (3 : Int32)), (.ref x)])) rfl (by rw [hml]; rfl) (argsL := []) (rest := [(.int (3 : Int32)), (.ref x)]) (lenOf pd___I rfl) rfl (by show 2 * 0 + _ ≤ _; exact Nat.le_of_eq rfl) (hb hby d21_3) rfl e0 (by decide) (by decide) (c' := 0) (s' := 0) rfl rfl
  clear q1a q1b q1c kq1 cq1
  obtain ⟨rfl, Nq1, eq1⟩ := hQ1
  have N1 := Fr.app N0 Nq1
  refine own_st (T' := T1) (g' := (mkF m 6 #[rv x, iv (3 : Int32)] [(.int (6 : Int32)), (.int (3 : Int32)), (.ref x)])) st1 ?_
  clear st1
  obtain ⟨cq2, kq2, q2a, q2b, q2c⟩ := isOf hZ eq1 E_x
  obtain ⟨_, T2, L2, X2, hQ2, st2⟩ := own_callV X1 hx (y := own_m19) (z := own_m19) hown (mvT hZ (hw _ (List.mem_of_getElem? (i := 100) rfl))) (mvT hZ (hw _ (List.mem_of_getElem? (i := 101) rfl))) (notFace_of_selects (args := #[]) (mvT hZ (hw _ (List.mem_of_getElem? (i := 103) rfl)))) (mvT hZ (hw _ (List.mem_of_getElem? (i := 103) rfl))) (mvT hZ (hw _ (List.mem_of_getElem? (i := 102) rfl))) (by decide) (backOf (W := 0) (rm_sub_2 l Z a0 hw [] x t kt c0 c1 (58 : Int32) c3 c4 c5 cz fm h0 n0 O0 E_x V_x C_x A_x SC hcz SF hfm) hZ (hw _ (List.mem_of_getElem? (i := 104) rfl)) (hw _ (List.mem_of_getElem? (i := 6) rfl)) (by decide) (by decide)) q2a q2c (g := (mkF m 6 #[rv x, iv (3 : Int32)] [(.int (6 : Int32)), (.int (3 : Int32)), (.ref x)])) rfl (by rw [hml]; rfl) (argsL := [(.int (3 : Int32)), (.int (6 : Int32))]) (rest := []) (lenOf pd__II_Ljava_lang_String_ rfl) rfl (by show 2 * 0 + _ ≤ _; exact Nat.le_of_eq rfl) (hb hby d21_6) rfl eq1 (by decide) (by decide) (c' := 2) (s' := 7) rfl rfl
  clear q2a q2b q2c kq2 cq2
  obtain ⟨b2, u2, ku2, rfl, Nq2, K2, fq2_0, fq2_1, fq2_2, fq2_3, xq2_fresh_b⟩ := hQ2
  have N2 := Fr.app N1 Nq2
  refine own_st (T' := T2) (g' := (mkF m 9 #[rv x, iv (3 : Int32)] [(.ref b2)])) st2 ?_
  clear st2
  have f3 : Keep h0 T2.heap [] := (Keep.refl h0 []).trans K2 all0
  exact own_retA X2 hx hret rfl rfl hlk (hb hby d21_9) (by decide) (by decide) ⟨b2, u2, ku2, rfl, N2, f3, fq2_0, fq2_1, fq2_2, fq2_3, (Nat.le_trans (Keep.refl h0 []).1 xq2_fresh_b)⟩
theorem ef_lp_2 (m : MethodId) (x0 : Addr) : entryFrame m #[(.ref x0)] 1 = mkF m 0 #[rv x0] [] := by first | (simp [entryFrame, mkF, argsToLocals, Value.category]; done) | rfl
def Q_lp_2 (Z : State) (x : Addr) (t : Addr) (kt : ClassId) (c0 : Int32) (c1 : Int32) (c3 : Int32) (c4 : Int32) (c5 : Int32) (cz : Int32) (fm : Value) (h0 : Heap) (n0 : Nat) (v : Option Value) (h : Heap) (L : List Loc) : Prop := ∃ (b : Addr) (u : Addr) (ku : ClassId), (v = some (.ref b)) ∧ (Fr n0 L) ∧ (Keep h0 h []) ∧ (Exa Z h b "java/lang/String") ∧ (Fld Z h b "java/lang/String" "coder" "B" (.int (0 : Int32))) ∧ (Fld Z h b "java/lang/String" "value" "[B" (.ref u)) ∧ (Arv Z h u ku .byte (3 : Int32) [(.int (c3.toInt8.toInt32)), (.int (c4.toInt8.toInt32)), (.int (c5.toInt8.toInt32))] (.int (0 : Int32))) ∧ (h0.size ≤ b)
set_option maxRecDepth 65536 in
set_option maxHeartbeats 40000000 in
theorem rm_lp_2 (l : Launch) (Z : State) (a0 : Array Value) (hw : ∀ d ∈ tables_1, d.before a0 Z = true) (ws : List Jvm.Cond) (x : Addr) (t : Addr) (kt : ClassId) (c0 : Int32) (c1 : Int32) (c3 : Int32) (c4 : Int32) (c5 : Int32) (cz : Int32) (fm : Value) (h0 : Heap) (n0 : Nat) (O0 : Old Z n0 h0) (E_x : Exa Z h0 x "java/lang/String") (V_x : Fld Z h0 x "java/lang/String" "value" "[B" (.ref t)) (C_x : Fld Z h0 x "java/lang/String" "coder" "B" (.int (0 : Int32))) (A_x : Arv Z h0 t kt .byte (6 : Int32) [(.int (c0.toInt8.toInt32)), (.int (c1.toInt8.toInt32)), (.int ((58 : Int32).toInt8.toInt32)), (.int (c3.toInt8.toInt32)), (.int (c4.toInt8.toInt32)), (.int (c5.toInt8.toInt32))] (.int (0 : Int32))) (hn3 : ¬ (c3.toInt8.toInt32) = ((58 : Int32).toInt8.toInt32)) (hn4 : ¬ (c4.toInt8.toInt32) = ((58 : Int32).toInt8.toInt32)) (hn5 : ¬ (c5.toInt8.toInt32) = ((58 : Int32).toInt8.toInt32)) (SC : Sta Z Z.heap "java/lang/String" "COMPACT_STRINGS" "Z" (.int cz)) (hcz : ¬ cz = (0 : Int32)) (SF : Sta Z Z.heap "jdk/internal/util/Preconditions" "SIOOBE_FORMATTER" "Ljava/util/function/BiFunction;" fm) (hfm : fm.isRef = true) :
    MetFree l own_m21 (head1 (Jvm.Cond.code own_m21 prog_26_method_7_code 1 (some (.object "java/lang/String")) :: ws) ({ frames := 6, cells := 2, slots := 7, locals := 115 } : Room)) (fun ar_ U => ar_ = #[(.ref x)] ∧ Z.Warmed39 U.vm ∧ U.heap = h0) (fun _ _ _ _ _ => True) (fun _ U o U' => ∃ v L, o = .returned v ∧ Q_lp_2 Z x t kt c0 c1 c3 c4 c5 cz fm h0 n0 v U'.heap L ∧ FrameEnd U o U' L ({ frames := 6, cells := 2, slots := 7, locals := 115 } : Room).cells ({ frames := 6, cells := 2, slots := 7, locals := 115 } : Room).slots) := by
  refine MetFree.of_bodySF (plainFor_of_name pn_6) hisR ?_
  intro p e s m args below meth c s₁ Bd hml0 hP hK
  obtain ⟨rfl, hZ, hh⟩ := hP
  have hx := Bd.exec
  have hby := Bd.bytes
  have hml : c.maxLocals = 1 := hml0
  have hown : s.vm.findClass "com/example/sheafgate/sheafgate/store/SetSpecs" = some m.cls := findClass_of_methodNamed Bd.named
  have hnm := (name_of_methodNamed Bd.named Bd.method).1
  have X0 : Stand p l e ({ frames := 6, cells := 2, slots := 7, locals := 115 } : Room) s m #[(.ref x)] below meth c s₁ [] 0 0 := Stand.of_body Bd
  have e0 : s₁.heap = h0 := by rw [← hh, Bd.state]; rfl
  have N0 := Fr.nil n0
  have hret := Bd.returns
  have hlk : meth.locks = false := Bd.notSynchronized
  show own_E p e below s ({ frames := 6, cells := 2, slots := 7, locals := 115 } : Room).cells ({ frames := 6, cells := 2, slots := 7, locals := 115 } : Room).slots (Q_lp_2 Z x t kt c0 c1 c3 c4 c5 cz fm h0 n0) s₁ (entryFrame m #[(.ref x)] 1)
  rw [ef_lp_2 m x]
  refine own_st (T' := s₁) (g' := (mkF m 1 #[rv x] [(.ref x)])) (fun _ k_ => XS.aloadN X0.here hx rfl (hb hby d13_0) rfl rfl  k_) ?_
  refine own_st (T' := s₁) (g' := (mkF m 2 #[rv x] [(.ref x), (.ref x)])) (fun _ k_ => XS.aloadN X0.here hx rfl (hb hby d13_1) rfl rfl  k_) ?_
  refine own_st (T' := s₁) (g' := (mkF m 4 #[rv x] [(.int (58 : Int32)), (.ref x), (.ref x)])) (fun _ k_ => XS.bipush X0.here hx rfl (hb hby d13_2) k_) ?_
  obtain ⟨cq1, kq1, q1a, q1b, q1c⟩ := isOf hZ e0 E_x
  obtain ⟨_, T1, L1, X1, hQ1, st1⟩ := own_callV X0 hx (y := own_m18) (z := own_m18) hown (mvT hZ (hw _ (List.mem_of_getElem? (i := 65) rfl))) (mvT hZ (hw _ (List.mem_of_getElem? (i := 66) rfl))) (notFace_of_selects (args := #[]) (mvT hZ (hw _ (List.mem_of_getElem? (i := 68) rfl)))) (mvT hZ (hw _ (List.mem_of_getElem? (i := 68) rfl))) (mvT hZ (hw _ (List.mem_of_getElem? (i := 67) rfl))) (by decide) (backOf (W := 1) (rm_li1 l Z a0 hw [] x t kt c0 c1 (58 : Int32) c3 c4 c5 cz h0 n0 O0 E_x V_x C_x A_x SC hcz) hZ (hw _ (List.mem_of_getElem? (i := 69) rfl)) (hw _ (List.mem_of_getElem? (i := 6) rfl)) (by decide) (by decide)) q1a q1c (g := (mkF m 4 #[rv x] [(.int (58 : Int32)), (.ref x), (.ref x)])) rfl (by rw [hml]; rfl) (argsL := [(.int (58 : Int32))]) (rest := [(.ref x)]) (lenOf pd__I_I rfl) rfl (by show 2 * 0 + _ ≤ _; exact Nat.le_of_eq rfl) (hb hby d13_4) rfl e0 (by decide) (by decide) (c' := 0) (s' := 0) rfl rfl
  clear q1a q1b q1c kq1 cq1
  obtain ⟨rfl, Nq1, eq1⟩ := hQ1
  have N1 := Fr.app N0 Nq1
  refine own_st (T' := T1) (g' := (mkF m 7 #[rv x] [(.int (own_la c0 c1 (58 : Int32) c3 c4 c5)), (.ref x)])) st1 ?_
  clear st1
  rw [own_la2 c0 c1 c3 c4 c5 hn3 hn4 hn5]
  refine own_st (T' := T1) (g' := (mkF m 8 #[rv x] [(.int (1 : Int32)), (.int (2 : Int32)), (.ref x)])) (fun _ k_ => XS.iconst X1.here hx rfl (hb hby d13_7) k_) ?_
  refine own_st (T' := T1) (g' := (mkF m 9 #[rv x] [(.int (3 : Int32)), (.ref x)])) (fun _ k_ => XS.iadd X1.here hx rfl (hb hby d13_8) rfl k_) ?_
  obtain ⟨cq2, kq2, q2a, q2b, q2c⟩ := isOf hZ eq1 E_x
  obtain ⟨_, T2, L2, X2, hQ2, st2⟩ := own_callV X1 hx (y := own_m20) (z := own_m20) hown (mvT hZ (hw _ (List.mem_of_getElem? (i := 95) rfl))) (mvT hZ (hw _ (List.mem_of_getElem? (i := 96) rfl))) (notFace_of_selects (args := #[]) (mvT hZ (hw _ (List.mem_of_getElem? (i := 98) rfl)))) (mvT hZ (hw _ (List.mem_of_getElem? (i := 98) rfl))) (mvT hZ (hw _ (List.mem_of_getElem? (i := 97) rfl))) (by decide) (backOf (W := 0) (rm_su1_2 l Z a0 hw [] x t kt c0 c1 c3 c4 c5 cz fm h0 n0 O0 E_x V_x C_x A_x SC hcz SF hfm) hZ (hw _ (List.mem_of_getElem? (i := 99) rfl)) (hw _ (List.mem_of_getElem? (i := 6) rfl)) (by decide) (by decide)) q2a q2c (g := (mkF m 9 #[rv x] [(.int (3 : Int32)), (.ref x)])) rfl (by rw [hml]; rfl) (argsL := [(.int (3 : Int32))]) (rest := []) (lenOf pd__I_Ljava_lang_String_ rfl) rfl (by show 2 * 0 + _ ≤ _; exact Nat.le_of_eq rfl) (hb hby d13_9) rfl eq1 (by decide) (by decide) (c' := 2) (s' := 7) rfl rfl
  clear q2a q2b q2c kq2 cq2
  obtain ⟨b2, u2, ku2, rfl, Nq2, K2, fq2_0, fq2_1, fq2_2, fq2_3, xq2_fresh_b⟩ := hQ2
  have N2 := Fr.app N1 Nq2
  refine own_st (T' := T2) (g' := (mkF m 12 #[rv x] [(.ref b2)])) st2 ?_
  clear st2
  have f3 : Keep h0 T2.heap [] := (Keep.refl h0 []).trans K2 all0
  exact own_retA X2 hx hret rfl rfl hlk (hb hby d13_12) (by decide) (by decide) ⟨b2, u2, ku2, rfl, N2, f3, fq2_0, fq2_1, fq2_2, fq2_3, (Nat.le_trans (Keep.refl h0 []).1 xq2_fresh_b)⟩
theorem own_la3 (c0 c1 c2 c4 c5 : Int32) (hn4 : ¬ (c4.toInt8.toInt32) = ((58 : Int32).toInt8.toInt32)) (hn5 : ¬ (c5.toInt8.toInt32) = ((58 : Int32).toInt8.toInt32)) : own_la c0 c1 c2 (58 : Int32) c4 c5 = 3 := by unfold own_la; rw [if_neg hn5, if_neg hn4, if_pos rfl]
theorem ef_crb_3 (m : MethodId) (x0 : Addr) (x1 : Int32) (x2 : Int32) : entryFrame m #[(.ref x0), (.int x1), (.int x2)] 5 = mkF m 0 #[rv x0, iv x1, iv x2, .unset, .unset] [] := by first | (simp [entryFrame, mkF, argsToLocals, Value.category]; done) | rfl
def Q_crb_3 (Z : State) (t : Addr) (kt : ClassId) (x0 : Int32) (x1 : Int32) (x2 : Int32) (x3 : Int32) (x4 : Int32) (x5 : Int32) (h0 : Heap) (n0 : Nat) (v : Option Value) (h : Heap) (L : List Loc) : Prop := ∃ (u : Addr) (ku : ClassId), (v = some (.ref u)) ∧ (Fr n0 L) ∧ (Keep h0 h []) ∧ (Arv Z h u ku .byte (2 : Int32) [(.int (x4.toInt8.toInt32)), (.int (x5.toInt8.toInt32))] (.int (0 : Int32))) ∧ (h0.size ≤ u)
set_option maxRecDepth 65536 in
set_option maxHeartbeats 40000000 in
theorem rm_crb_3 (l : Launch) (Z : State) (a0 : Array Value) (hw : ∀ d ∈ tables_1, d.before a0 Z = true) (ws : List Jvm.Cond) (t : Addr) (kt : ClassId) (x0 : Int32) (x1 : Int32) (x2 : Int32) (x3 : Int32) (x4 : Int32) (x5 : Int32) (h0 : Heap) (n0 : Nat) (O0 : Old Z n0 h0) (A_x : Arv Z h0 t kt .byte (6 : Int32) [(.int (x0.toInt8.toInt32)), (.int (x1.toInt8.toInt32)), (.int (x2.toInt8.toInt32)), (.int (x3.toInt8.toInt32)), (.int (x4.toInt8.toInt32)), (.int (x5.toInt8.toInt32))] (.int (0 : Int32))) :
    MetFree l own_m22 (head1 (Jvm.Cond.code own_m22 jdk_65_method_133_code 5 (some (.array .byte)) :: ws) ({ frames := 1, cells := 1, slots := 2, locals := 40 } : Room)) (fun ar_ U => ar_ = #[(.ref t), (.int (4 : Int32)), (.int (6 : Int32))] ∧ Z.Warmed39 U.vm ∧ U.heap = h0) (fun _ _ _ _ _ => True) (fun _ U o U' => ∃ v L, o = .returned v ∧ Q_crb_3 Z t kt x0 x1 x2 x3 x4 x5 h0 n0 v U'.heap L ∧ FrameEnd U o U' L ({ frames := 1, cells := 1, slots := 2, locals := 40 } : Room).cells ({ frames := 1, cells := 1, slots := 2, locals := 40 } : Room).slots) := by
  refine MetFree.of_bodySF (plainFor_of_name pn_3) hisR ?_
  intro p e s m args below meth c s₁ Bd hml0 hP hK
  obtain ⟨rfl, hZ, hh⟩ := hP
  have hx := Bd.exec
  have hby := Bd.bytes
  have hml : c.maxLocals = 5 := hml0
  have hown : s.vm.findClass "java/util/Arrays" = some m.cls := findClass_of_methodNamed Bd.named
  have hnm := (name_of_methodNamed Bd.named Bd.method).1
  have X0 : Stand p l e ({ frames := 1, cells := 1, slots := 2, locals := 40 } : Room) s m #[(.ref t), (.int (4 : Int32)), (.int (6 : Int32))] below meth c s₁ [] 0 0 := Stand.of_body Bd
  have e0 : s₁.heap = h0 := by rw [← hh, Bd.state]; rfl
  have N0 := Fr.nil n0
  have hret := Bd.returns
  have hlk : meth.locks = false := Bd.notSynchronized
  show own_E p e below s ({ frames := 1, cells := 1, slots := 2, locals := 40 } : Room).cells ({ frames := 1, cells := 1, slots := 2, locals := 40 } : Room).slots (Q_crb_3 Z t kt x0 x1 x2 x3 x4 x5 h0 n0) s₁ (entryFrame m #[(.ref t), (.int (4 : Int32)), (.int (6 : Int32))] 5)
  rw [ef_crb_3 m t (4 : Int32) (6 : Int32)]
  refine own_st (T' := s₁) (g' := (mkF m 1 #[rv t, iv (4 : Int32), iv (6 : Int32), .unset, .unset] [(.int (4 : Int32))])) (fun _ k_ => XS.iloadN X0.here hx rfl (hb hby d28_0) rfl  k_) ?_
  refine own_st (T' := s₁) (g' := (mkF m 2 #[rv t, iv (4 : Int32), iv (6 : Int32), .unset, .unset] [(.int (6 : Int32)), (.int (4 : Int32))])) (fun _ k_ => XS.iloadN X0.here hx rfl (hb hby d28_1) rfl  k_) ?_
  obtain ⟨_, T1, L1, X1, hQ1, st1⟩ := own_callS X0 hx (y := own_m11) hown (mvT hZ (hw _ (List.mem_of_getElem? (i := 126) rfl))) (mvT hZ (hw _ (List.mem_of_getElem? (i := 127) rfl))) (mvT hZ (hw _ (List.mem_of_getElem? (i := 121) rfl))) (mvT hZ (hw _ (List.mem_of_getElem? (i := 128) rfl))) (by decide) (backOf (W := 0) (rm_ckl l Z a0 hw [] (4 : Int32) (6 : Int32) h0 n0 O0 (by decide)) hZ (hw _ (List.mem_of_getElem? (i := 128) rfl)) (hw _ (List.mem_of_getElem? (i := 121) rfl)) (by decide) (by decide)) (g := (mkF m 2 #[rv t, iv (4 : Int32), iv (6 : Int32), .unset, .unset] [(.int (6 : Int32)), (.int (4 : Int32))])) rfl (by rw [hml]; rfl) (argsL := [(.int (4 : Int32)), (.int (6 : Int32))]) (rest := []) (lenOf pd__II_V rfl) rfl (by show 2 * 0 + _ ≤ _; exact Nat.le_of_eq rfl) (hb hby d28_2) rfl e0 (by decide) (by decide) (c' := 0) (s' := 0) rfl rfl
  obtain ⟨rfl, Nq1, eq1⟩ := hQ1
  have N1 := Fr.app N0 Nq1
  refine own_st (T' := T1) (g' := (mkF m 5 #[rv t, iv (4 : Int32), iv (6 : Int32), .unset, .unset] [])) st1 ?_
  clear st1
  refine own_st (T' := T1) (g' := (mkF m 6 #[rv t, iv (4 : Int32), iv (6 : Int32), .unset, .unset] [(.int (6 : Int32))])) (fun _ k_ => XS.iloadN X1.here hx rfl (hb hby d28_5) rfl  k_) ?_
  refine own_st (T' := T1) (g' := (mkF m 7 #[rv t, iv (4 : Int32), iv (6 : Int32), .unset, .unset] [(.int (4 : Int32)), (.int (6 : Int32))])) (fun _ k_ => XS.iloadN X1.here hx rfl (hb hby d28_6) rfl  k_) ?_
  refine own_st (T' := T1) (g' := (mkF m 8 #[rv t, iv (4 : Int32), iv (6 : Int32), .unset, .unset] [(.int (2 : Int32))])) (fun _ k_ => XS.isub X1.here hx rfl (hb hby d28_7) rfl k_) ?_
  refine own_st (T' := T1) (g' := (mkF m 9 #[rv t, iv (4 : Int32), iv (6 : Int32), iv (2 : Int32), .unset] [])) (fun _ k_ => XS.istoreN X1.here hx rfl (hb hby d28_8) rfl (l' := #[rv t, iv (4 : Int32), iv (6 : Int32), iv (2 : Int32), .unset]) rfl k_) ?_
  refine own_st (T' := T1) (g' := (mkF m 10 #[rv t, iv (4 : Int32), iv (6 : Int32), iv (2 : Int32), .unset] [(.int (2 : Int32))])) (fun _ k_ => XS.iloadN X1.here hx rfl (hb hby d28_9) rfl  k_) ?_
  obtain ⟨T2, h2, k2, X2, e2, E2, A2, st2⟩ := newP X1 hx hZ (hw _ (List.mem_of_getElem? (i := 8) rfl)) eq1 (g := (mkF m 10 #[rv t, iv (4 : Int32), iv (6 : Int32), iv (2 : Int32), .unset] [(.int (2 : Int32))])) rfl (hb hby d28_10) rfl (by decide) (cap := 2) (by decide) (by decide) (by decide) (by decide)
  obtain ⟨b2, g2⟩ : ∃ z, z = h0.size := ⟨_, rfl⟩
  rw [← g2] at A2 st2
  have fr2 : n0 ≤ b2 := Nat.le_trans (own_z O0) (Nat.le_of_eq g2.symm)
  have sz2 : h0.size ≤ b2 := Nat.le_trans (Keep.refl h0 []).1 (Nat.le_of_eq g2.symm)
  have V2 : Arv Z h2 b2 k2 .byte (2 : Int32) [(.int (0 : Int32)), (.int (0 : Int32))] (.int (0 : Int32)) := (Arv.new A2 (by decide)).pad (pad_rep [] (.int (0 : Int32)) 2)
  refine own_st (T' := T2) (g' := (mkF m 12 #[rv t, iv (4 : Int32), iv (6 : Int32), iv (2 : Int32), .unset] [(.ref b2)])) st2 ?_
  clear st2
  refine own_st (T' := T2) (g' := (mkF m 14 #[rv t, iv (4 : Int32), iv (6 : Int32), iv (2 : Int32), rv b2] [])) (fun _ k_ => XS.astore X2.here hx rfl (hb hby d28_12) rfl rfl (l' := #[rv t, iv (4 : Int32), iv (6 : Int32), iv (2 : Int32), rv b2]) rfl k_) ?_
  refine own_st (T' := T2) (g' := (mkF m 15 #[rv t, iv (4 : Int32), iv (6 : Int32), iv (2 : Int32), rv b2] [(.ref t)])) (fun _ k_ => XS.aloadN X2.here hx rfl (hb hby d28_14) rfl rfl  k_) ?_
  refine own_st (T' := T2) (g' := (mkF m 16 #[rv t, iv (4 : Int32), iv (6 : Int32), iv (2 : Int32), rv b2] [(.int (4 : Int32)), (.ref t)])) (fun _ k_ => XS.iloadN X2.here hx rfl (hb hby d28_15) rfl  k_) ?_
  refine own_st (T' := T2) (g' := (mkF m 18 #[rv t, iv (4 : Int32), iv (6 : Int32), iv (2 : Int32), rv b2] [(.ref b2), (.int (4 : Int32)), (.ref t)])) (fun _ k_ => XS.aload X2.here hx rfl (hb hby d28_16) rfl rfl  k_) ?_
  refine own_st (T' := T2) (g' := (mkF m 19 #[rv t, iv (4 : Int32), iv (6 : Int32), iv (2 : Int32), rv b2] [(.int (0 : Int32)), (.ref b2), (.int (4 : Int32)), (.ref t)])) (fun _ k_ => XS.iconst X2.here hx rfl (hb hby d28_18) k_) ?_
  refine own_st (T' := T2) (g' := (mkF m 20 #[rv t, iv (4 : Int32), iv (6 : Int32), iv (2 : Int32), rv b2] [(.ref t), (.int (0 : Int32)), (.ref b2), (.int (4 : Int32)), (.ref t)])) (fun _ k_ => XS.aloadN X2.here hx rfl (hb hby d28_19) rfl rfl  k_) ?_
  have f4 : Arv Z h2 t kt .byte (6 : Int32) [(.int (x0.toInt8.toInt32)), (.int (x1.toInt8.toInt32)), (.int (x2.toInt8.toInt32)), (.int (x3.toInt8.toInt32)), (.int (x4.toInt8.toInt32)), (.int (x5.toInt8.toInt32))] (.int (0 : Int32)) := A_x.ext E2
  obtain ⟨cl3, Ar3, -, S3, N3, -, -⟩ := id f4
  refine own_st (T' := T2) (g' := (mkF m 21 #[rv t, iv (4 : Int32), iv (6 : Int32), iv (2 : Int32), rv b2] [(.int (6 : Int32)), (.int (0 : Int32)), (.ref b2), (.int (4 : Int32)), (.ref t)])) (fun t_ k_ => X2.arraylength hx (by rw [e2]; exact Ar3.1) (State.isArrayOf_alike hZ.alike Ar3.2.1) (g := (mkF m 20 #[rv t, iv (4 : Int32), iv (6 : Int32), iv (2 : Int32), rv b2] [(.ref t), (.int (0 : Int32)), (.ref b2), (.int (4 : Int32)), (.ref t)])) rfl rfl (hb hby d28_20) _ (by rw [len_of S3 N3]; exact k_)) ?_
  refine own_st (T' := T2) (g' := (mkF m 22 #[rv t, iv (4 : Int32), iv (6 : Int32), iv (2 : Int32), rv b2] [(.int (4 : Int32)), (.int (6 : Int32)), (.int (0 : Int32)), (.ref b2), (.int (4 : Int32)), (.ref t)])) (fun _ k_ => XS.iloadN X2.here hx rfl (hb hby d28_21) rfl  k_) ?_
  refine own_st (T' := T2) (g' := (mkF m 23 #[rv t, iv (4 : Int32), iv (6 : Int32), iv (2 : Int32), rv b2] [(.int (2 : Int32)), (.int (0 : Int32)), (.ref b2), (.int (4 : Int32)), (.ref t)])) (fun _ k_ => XS.isub X2.here hx rfl (hb hby d28_22) rfl k_) ?_
  refine own_st (T' := T2) (g' := (mkF m 24 #[rv t, iv (4 : Int32), iv (6 : Int32), iv (2 : Int32), rv b2] [(.int (2 : Int32)), (.int (2 : Int32)), (.int (0 : Int32)), (.ref b2), (.int (4 : Int32)), (.ref t)])) (fun _ k_ => XS.iloadN X2.here hx rfl (hb hby d28_23) rfl  k_) ?_
  have f5 : Old Z n0 h2 := O0.ext E2
  obtain ⟨_, T6, L6, X6, hQ6, st6⟩ := own_callS X2 hx (y := own_m8) hown (mvT hZ (hw _ (List.mem_of_getElem? (i := 129) rfl))) (mvT hZ (hw _ (List.mem_of_getElem? (i := 92) rfl))) (mvT hZ (hw _ (List.mem_of_getElem? (i := 93) rfl))) (mvT hZ (hw _ (List.mem_of_getElem? (i := 94) rfl))) (by decide) (backOf (W := 4) (rm_min l Z a0 hw [] (2 : Int32) (2 : Int32) h2 n0 f5 (by decide)) hZ (hw _ (List.mem_of_getElem? (i := 94) rfl)) (hw _ (List.mem_of_getElem? (i := 93) rfl)) (by decide) (by decide)) (g := (mkF m 24 #[rv t, iv (4 : Int32), iv (6 : Int32), iv (2 : Int32), rv b2] [(.int (2 : Int32)), (.int (2 : Int32)), (.int (0 : Int32)), (.ref b2), (.int (4 : Int32)), (.ref t)])) rfl (by rw [hml]; rfl) (argsL := [(.int (2 : Int32)), (.int (2 : Int32))]) (rest := [(.int (0 : Int32)), (.ref b2), (.int (4 : Int32)), (.ref t)]) (lenOf pd__II_I rfl) rfl (by show 2 * 0 + _ ≤ _; exact Nat.le_of_eq rfl) (hb hby d28_24) rfl e2 (by decide) (by decide) (c' := 1) (s' := 2) rfl rfl
  obtain ⟨rfl, Nq6, eq6⟩ := hQ6
  have N6 := Fr.app N1 Nq6
  refine own_st (T' := T6) (g' := (mkF m 27 #[rv t, iv (4 : Int32), iv (6 : Int32), iv (2 : Int32), rv b2] [(.int (2 : Int32)), (.int (0 : Int32)), (.ref b2), (.int (4 : Int32)), (.ref t)])) st6 ?_
  clear st6
  obtain ⟨T7, h7, L7, X7, e7, N7, K7, Va7, st7⟩ := cpA X6 hx hZ hown (hw _ (List.mem_of_getElem? (i := 130) rfl)) (hw _ (List.mem_of_getElem? (i := 133) rfl)) (hw _ (List.mem_of_getElem? (i := 131) rfl)) (hw _ (List.mem_of_getElem? (i := 132) rfl)) eq6 f4 V2 (sp := (4 : Int32)) (dp := (0 : Int32)) (nn := (2 : Int32)) (Or.inl ⟨rfl, rfl⟩) (by decide) (by decide) (by decide) (by decide) (by decide) (us := [(.int (x4.toInt8.toInt32)), (.int (x5.toInt8.toInt32))]) rfl (Nat.le_of_ble_eq_true rfl) N6 fr2 (g := (mkF m 27 #[rv t, iv (4 : Int32), iv (6 : Int32), iv (2 : Int32), rv b2] [(.int (2 : Int32)), (.int (0 : Int32)), (.ref b2), (.int (4 : Int32)), (.ref t)])) rfl (by rw [hml]; rfl) (rest := []) rfl (hb hby d28_27) (by decide) (W := 0) (by show 2 * 0 + _ ≤ _; exact Nat.le_of_eq rfl) (by decide)
  have V7 : Arv Z h7 b2 k2 .byte (2 : Int32) [(.int (x4.toInt8.toInt32)), (.int (x5.toInt8.toInt32))] (.int (0 : Int32)) := Va7
  refine own_st (T' := T7) (g' := (mkF m 30 #[rv t, iv (4 : Int32), iv (6 : Int32), iv (2 : Int32), rv b2] [])) st7 ?_
  clear st7
  refine own_st (T' := T7) (g' := (mkF m 32 #[rv t, iv (4 : Int32), iv (6 : Int32), iv (2 : Int32), rv b2] [(.ref b2)])) (fun _ k_ => XS.aload X7.here hx rfl (hb hby d28_30) rfl rfl  k_) ?_
  have f8 : Keep h0 h2 [] := (Keep.refl h0 []).ext E2
  have f9 : Keep h0 h7 [] := f8.trans K7 (allS (Or.inr sz2) all0)
  exact own_retA X7 hx hret rfl rfl hlk (hb hby d28_32) (by decide) (by decide) (by rw [e7]; exact ⟨b2, k2, rfl, N7, f9, V7, sz2⟩)
theorem ef_cra_3 (m : MethodId) (x0 : Addr) (x1 : Int32) (x2 : Int32) : entryFrame m #[(.ref x0), (.int x1), (.int x2)] 3 = mkF m 0 #[rv x0, iv x1, iv x2] [] := by first | (simp [entryFrame, mkF, argsToLocals, Value.category]; done) | rfl
def Q_cra_3 (Z : State) (t : Addr) (kt : ClassId) (x0 : Int32) (x1 : Int32) (x2 : Int32) (x3 : Int32) (x4 : Int32) (x5 : Int32) (h0 : Heap) (n0 : Nat) (v : Option Value) (h : Heap) (L : List Loc) : Prop := ∃ (u : Addr) (ku : ClassId), (v = some (.ref u)) ∧ (Fr n0 L) ∧ (Keep h0 h []) ∧ (Arv Z h u ku .byte (2 : Int32) [(.int (x4.toInt8.toInt32)), (.int (x5.toInt8.toInt32))] (.int (0 : Int32))) ∧ (h0.size ≤ u)
set_option maxRecDepth 65536 in
set_option maxHeartbeats 40000000 in
theorem rm_cra_3 (l : Launch) (Z : State) (a0 : Array Value) (hw : ∀ d ∈ tables_1, d.before a0 Z = true) (ws : List Jvm.Cond) (t : Addr) (kt : ClassId) (x0 : Int32) (x1 : Int32) (x2 : Int32) (x3 : Int32) (x4 : Int32) (x5 : Int32) (h0 : Heap) (n0 : Nat) (O0 : Old Z n0 h0) (A_x : Arv Z h0 t kt .byte (6 : Int32) [(.int (x0.toInt8.toInt32)), (.int (x1.toInt8.toInt32)), (.int (x2.toInt8.toInt32)), (.int (x3.toInt8.toInt32)), (.int (x4.toInt8.toInt32)), (.int (x5.toInt8.toInt32))] (.int (0 : Int32))) :
    MetFree l own_m23 (head1 (Jvm.Cond.code own_m23 jdk_65_method_132_code 3 (some (.array .byte)) :: ws) ({ frames := 2, cells := 1, slots := 2, locals := 56 } : Room)) (fun ar_ U => ar_ = #[(.ref t), (.int (4 : Int32)), (.int (6 : Int32))] ∧ Z.Warmed39 U.vm ∧ U.heap = h0) (fun _ _ _ _ _ => True) (fun _ U o U' => ∃ v L, o = .returned v ∧ Q_cra_3 Z t kt x0 x1 x2 x3 x4 x5 h0 n0 v U'.heap L ∧ FrameEnd U o U' L ({ frames := 2, cells := 1, slots := 2, locals := 56 } : Room).cells ({ frames := 2, cells := 1, slots := 2, locals := 56 } : Room).slots) := by
  refine MetFree.of_bodySF (plainFor_of_name pn_3) hisR ?_
  intro p e s m args below meth c s₁ Bd hml0 hP hK
  obtain ⟨rfl, hZ, hh⟩ := hP
  have hx := Bd.exec
  have hby := Bd.bytes
  have hml : c.maxLocals = 3 := hml0
  have hown : s.vm.findClass "java/util/Arrays" = some m.cls := findClass_of_methodNamed Bd.named
  have hnm := (name_of_methodNamed Bd.named Bd.method).1
  have X0 : Stand p l e ({ frames := 2, cells := 1, slots := 2, locals := 56 } : Room) s m #[(.ref t), (.int (4 : Int32)), (.int (6 : Int32))] below meth c s₁ [] 0 0 := Stand.of_body Bd
  have e0 : s₁.heap = h0 := by rw [← hh, Bd.state]; rfl
  have N0 := Fr.nil n0
  have hret := Bd.returns
  have hlk : meth.locks = false := Bd.notSynchronized
  show own_E p e below s ({ frames := 2, cells := 1, slots := 2, locals := 56 } : Room).cells ({ frames := 2, cells := 1, slots := 2, locals := 56 } : Room).slots (Q_cra_3 Z t kt x0 x1 x2 x3 x4 x5 h0 n0) s₁ (entryFrame m #[(.ref t), (.int (4 : Int32)), (.int (6 : Int32))] 3)
  rw [ef_cra_3 m t (4 : Int32) (6 : Int32)]
  refine own_st (T' := s₁) (g' := (mkF m 1 #[rv t, iv (4 : Int32), iv (6 : Int32)] [(.int (4 : Int32))])) (fun _ k_ => XS.iloadN X0.here hx rfl (hb hby d27_0) rfl  k_) ?_
  refine own_st (T' := s₁) (g' := (mkF m 10 #[rv t, iv (4 : Int32), iv (6 : Int32)] [])) (fun _ k_ => XS.ifYes X0.here hx rfl (pc0 := 1) (pc' := 10) rfl (hb hby d27_1) rfl ((if0 _ _).trans (feq (by decide : ¬ ((4 : Int32) = (0 : Int32)))).2) (by decide) (by decide) k_) ?_
  refine own_st (T' := s₁) (g' := (mkF m 11 #[rv t, iv (4 : Int32), iv (6 : Int32)] [(.ref t)])) (fun _ k_ => XS.aloadN X0.here hx rfl (hb hby d27_10) rfl rfl  k_) ?_
  refine own_st (T' := s₁) (g' := (mkF m 12 #[rv t, iv (4 : Int32), iv (6 : Int32)] [(.int (4 : Int32)), (.ref t)])) (fun _ k_ => XS.iloadN X0.here hx rfl (hb hby d27_11) rfl  k_) ?_
  refine own_st (T' := s₁) (g' := (mkF m 13 #[rv t, iv (4 : Int32), iv (6 : Int32)] [(.int (6 : Int32)), (.int (4 : Int32)), (.ref t)])) (fun _ k_ => XS.iloadN X0.here hx rfl (hb hby d27_12) rfl  k_) ?_
  obtain ⟨_, T1, L1, X1, hQ1, st1⟩ := own_callS X0 hx (y := own_m22) hown (mvT hZ (hw _ (List.mem_of_getElem? (i := 123) rfl))) (mvT hZ (hw _ (List.mem_of_getElem? (i := 124) rfl))) (mvT hZ (hw _ (List.mem_of_getElem? (i := 121) rfl))) (mvT hZ (hw _ (List.mem_of_getElem? (i := 125) rfl))) (by decide) (backOf (W := 0) (rm_crb_3 l Z a0 hw [] t kt x0 x1 x2 x3 x4 x5 h0 n0 O0 A_x) hZ (hw _ (List.mem_of_getElem? (i := 125) rfl)) (hw _ (List.mem_of_getElem? (i := 121) rfl)) (by decide) (by decide)) (g := (mkF m 13 #[rv t, iv (4 : Int32), iv (6 : Int32)] [(.int (6 : Int32)), (.int (4 : Int32)), (.ref t)])) rfl (by rw [hml]; rfl) (argsL := [(.ref t), (.int (4 : Int32)), (.int (6 : Int32))]) (rest := []) (lenOf pd___BII__B rfl) rfl (by show 2 * 0 + _ ≤ _; exact Nat.le_of_eq rfl) (hb hby d27_13) rfl e0 (by decide) (by decide) (c' := 1) (s' := 2) rfl rfl
  obtain ⟨u1, ku1, rfl, Nq1, K1, fq1_0, xq1_fresh_u⟩ := hQ1
  have N1 := Fr.app N0 Nq1
  refine own_st (T' := T1) (g' := (mkF m 16 #[rv t, iv (4 : Int32), iv (6 : Int32)] [(.ref u1)])) st1 ?_
  clear st1
  have f2 : Keep h0 T1.heap [] := (Keep.refl h0 []).trans K1 all0
  exact own_retA X1 hx hret rfl rfl hlk (hb hby d27_16) (by decide) (by decide) ⟨u1, ku1, rfl, N1, f2, fq1_0, (Nat.le_trans (Keep.refl h0 []).1 xq1_fresh_u)⟩
theorem ef_nws_3 (m : MethodId) (x0 : Addr) (x1 : Int32) (x2 : Int32) : entryFrame m #[(.ref x0), (.int x1), (.int x2)] 3 = mkF m 0 #[rv x0, iv x1, iv x2] [] := by first | (simp [entryFrame, mkF, argsToLocals, Value.category]; done) | rfl
def Q_nws_3 (Z : State) (t : Addr) (kt : ClassId) (x0 : Int32) (x1 : Int32) (x2 : Int32) (x3 : Int32) (x4 : Int32) (x5 : Int32) (h0 : Heap) (n0 : Nat) (v : Option Value) (h : Heap) (L : List Loc) : Prop := ∃ (b : Addr) (u : Addr) (ku : ClassId), (v = some (.ref b)) ∧ (Fr n0 L) ∧ (Keep h0 h []) ∧ (Exa Z h b "java/lang/String") ∧ (Fld Z h b "java/lang/String" "coder" "B" (.int (0 : Int32))) ∧ (Fld Z h b "java/lang/String" "value" "[B" (.ref u)) ∧ (Arv Z h u ku .byte (2 : Int32) [(.int (x4.toInt8.toInt32)), (.int (x5.toInt8.toInt32))] (.int (0 : Int32))) ∧ (h0.size ≤ b)
set_option maxRecDepth 65536 in
set_option maxHeartbeats 40000000 in
theorem rm_nws_3 (l : Launch) (Z : State) (a0 : Array Value) (hw : ∀ d ∈ tables_1, d.before a0 Z = true) (ws : List Jvm.Cond) (t : Addr) (kt : ClassId) (x0 : Int32) (x1 : Int32) (x2 : Int32) (x3 : Int32) (x4 : Int32) (x5 : Int32) (h0 : Heap) (n0 : Nat) (O0 : Old Z n0 h0) (A_x : Arv Z h0 t kt .byte (6 : Int32) [(.int (x0.toInt8.toInt32)), (.int (x1.toInt8.toInt32)), (.int (x2.toInt8.toInt32)), (.int (x3.toInt8.toInt32)), (.int (x4.toInt8.toInt32)), (.int (x5.toInt8.toInt32))] (.int (0 : Int32))) :
    MetFree l own_m24 (head1 (Jvm.Cond.code own_m24 jdk_43_method_47_code 3 (some (.object "java/lang/String")) :: ws) ({ frames := 3, cells := 2, slots := 6, locals := 72 } : Room)) (fun ar_ U => ar_ = #[(.ref t), (.int (4 : Int32)), (.int (2 : Int32))] ∧ Z.Warmed39 U.vm ∧ U.heap = h0) (fun _ _ _ _ _ => True) (fun _ U o U' => ∃ v L, o = .returned v ∧ Q_nws_3 Z t kt x0 x1 x2 x3 x4 x5 h0 n0 v U'.heap L ∧ FrameEnd U o U' L ({ frames := 3, cells := 2, slots := 6, locals := 72 } : Room).cells ({ frames := 3, cells := 2, slots := 6, locals := 72 } : Room).slots) := by
  refine MetFree.of_bodySF (plainFor_of_name pn_5) hisR ?_
  intro p e s m args below meth c s₁ Bd hml0 hP hK
  obtain ⟨rfl, hZ, hh⟩ := hP
  have hx := Bd.exec
  have hby := Bd.bytes
  have hml : c.maxLocals = 3 := hml0
  have hown : s.vm.findClass "java/lang/StringLatin1" = some m.cls := findClass_of_methodNamed Bd.named
  have hnm := (name_of_methodNamed Bd.named Bd.method).1
  have X0 : Stand p l e ({ frames := 3, cells := 2, slots := 6, locals := 72 } : Room) s m #[(.ref t), (.int (4 : Int32)), (.int (2 : Int32))] below meth c s₁ [] 0 0 := Stand.of_body Bd
  have e0 : s₁.heap = h0 := by rw [← hh, Bd.state]; rfl
  have N0 := Fr.nil n0
  have hret := Bd.returns
  have hlk : meth.locks = false := Bd.notSynchronized
  show own_E p e below s ({ frames := 3, cells := 2, slots := 6, locals := 72 } : Room).cells ({ frames := 3, cells := 2, slots := 6, locals := 72 } : Room).slots (Q_nws_3 Z t kt x0 x1 x2 x3 x4 x5 h0 n0) s₁ (entryFrame m #[(.ref t), (.int (4 : Int32)), (.int (2 : Int32))] 3)
  rw [ef_nws_3 m t (4 : Int32) (2 : Int32)]
  refine own_st (T' := s₁) (g' := (mkF m 1 #[rv t, iv (4 : Int32), iv (2 : Int32)] [(.int (2 : Int32))])) (fun _ k_ => XS.iloadN X0.here hx rfl (hb hby d26_0) rfl  k_) ?_
  refine own_st (T' := s₁) (g' := (mkF m 7 #[rv t, iv (4 : Int32), iv (2 : Int32)] [])) (fun _ k_ => XS.ifYes X0.here hx rfl (pc0 := 1) (pc' := 7) rfl (hb hby d26_1) rfl ((if0 _ _).trans (feq (by decide : ¬ ((2 : Int32) = (0 : Int32)))).2) (by decide) (by decide) k_) ?_
  obtain ⟨T1, h1, X1, e1, E1, A1, D1, -, st1⟩ := newO X0 hx hZ hown (hw _ (List.mem_of_getElem? (i := 118) rfl)) (hw _ (List.mem_of_getElem? (i := 7) rfl)) (hw _ (List.mem_of_getElem? (i := 6) rfl)) e0 (g := (mkF m 7 #[rv t, iv (4 : Int32), iv (2 : Int32)] [])) rfl (hb hby d26_7) (by decide) (by decide)
  obtain ⟨b1, g1⟩ : ∃ z, z = h0.size := ⟨_, rfl⟩
  rw [← g1] at A1 D1 st1
  have fr1 : n0 ≤ b1 := Nat.le_trans (own_z O0) (Nat.le_of_eq g1.symm)
  have sz1 : h0.size ≤ b1 := Nat.le_trans (Keep.refl h0 []).1 (Nat.le_of_eq g1.symm)
  have F1_value : Fld Z h1 b1 "java/lang/String" "value" "[B" .null := D1 (Or.inr (hw _ (List.mem_of_getElem? (i := 9) rfl))) (ty := (.array .byte)) (by decide)
  have F1_coder : Fld Z h1 b1 "java/lang/String" "coder" "B" (.int (0 : Int32)) := D1 (Or.inr (hw _ (List.mem_of_getElem? (i := 10) rfl))) (ty := .byte) (by decide)
  refine own_st (T' := T1) (g' := (mkF m 10 #[rv t, iv (4 : Int32), iv (2 : Int32)] [(.ref b1)])) st1 ?_
  clear st1
  refine own_st (T' := T1) (g' := (mkF m 11 #[rv t, iv (4 : Int32), iv (2 : Int32)] [(.ref b1), (.ref b1)])) (fun _ k_ => XS.dup X1.here hx rfl (hb hby d26_10) rfl rfl k_) ?_
  refine own_st (T' := T1) (g' := (mkF m 12 #[rv t, iv (4 : Int32), iv (2 : Int32)] [(.ref t), (.ref b1), (.ref b1)])) (fun _ k_ => XS.aloadN X1.here hx rfl (hb hby d26_11) rfl rfl  k_) ?_
  refine own_st (T' := T1) (g' := (mkF m 13 #[rv t, iv (4 : Int32), iv (2 : Int32)] [(.int (4 : Int32)), (.ref t), (.ref b1), (.ref b1)])) (fun _ k_ => XS.iloadN X1.here hx rfl (hb hby d26_12) rfl  k_) ?_
  refine own_st (T' := T1) (g' := (mkF m 14 #[rv t, iv (4 : Int32), iv (2 : Int32)] [(.int (4 : Int32)), (.int (4 : Int32)), (.ref t), (.ref b1), (.ref b1)])) (fun _ k_ => XS.iloadN X1.here hx rfl (hb hby d26_13) rfl  k_) ?_
  refine own_st (T' := T1) (g' := (mkF m 15 #[rv t, iv (4 : Int32), iv (2 : Int32)] [(.int (2 : Int32)), (.int (4 : Int32)), (.int (4 : Int32)), (.ref t), (.ref b1), (.ref b1)])) (fun _ k_ => XS.iloadN X1.here hx rfl (hb hby d26_14) rfl  k_) ?_
  refine own_st (T' := T1) (g' := (mkF m 16 #[rv t, iv (4 : Int32), iv (2 : Int32)] [(.int (6 : Int32)), (.int (4 : Int32)), (.ref t), (.ref b1), (.ref b1)])) (fun _ k_ => XS.iadd X1.here hx rfl (hb hby d26_15) rfl k_) ?_
  have f2 : Arv Z h1 t kt .byte (6 : Int32) [(.int (x0.toInt8.toInt32)), (.int (x1.toInt8.toInt32)), (.int (x2.toInt8.toInt32)), (.int (x3.toInt8.toInt32)), (.int (x4.toInt8.toInt32)), (.int (x5.toInt8.toInt32))] (.int (0 : Int32)) := A_x.ext E1
  have f3 : Old Z n0 h1 := O0.ext E1
  have f4 : Keep h0 h1 [] := (Keep.refl h0 []).ext E1
  obtain ⟨_, T5, L5, X5, hQ5, st5⟩ := own_callS X1 hx (y := own_m23) hown (mvT hZ (hw _ (List.mem_of_getElem? (i := 119) rfl))) (mvT hZ (hw _ (List.mem_of_getElem? (i := 120) rfl))) (mvT hZ (hw _ (List.mem_of_getElem? (i := 121) rfl))) (mvT hZ (hw _ (List.mem_of_getElem? (i := 122) rfl))) (by decide) (backOf (W := 2) (rm_cra_3 l Z a0 hw [] t kt x0 x1 x2 x3 x4 x5 h1 n0 f3 f2) hZ (hw _ (List.mem_of_getElem? (i := 122) rfl)) (hw _ (List.mem_of_getElem? (i := 121) rfl)) (by decide) (by decide)) (g := (mkF m 16 #[rv t, iv (4 : Int32), iv (2 : Int32)] [(.int (6 : Int32)), (.int (4 : Int32)), (.ref t), (.ref b1), (.ref b1)])) rfl (by rw [hml]; rfl) (argsL := [(.ref t), (.int (4 : Int32)), (.int (6 : Int32))]) (rest := [(.ref b1), (.ref b1)]) (lenOf pd___BII__B rfl) rfl (by show 2 * 0 + _ ≤ _; exact Nat.le_of_eq rfl) (hb hby d26_16) rfl e1 (by decide) (by decide) (c' := 2) (s' := 6) rfl rfl
  obtain ⟨u5, ku5, rfl, Nq5, K5, fq5_0, xq5_fresh_u⟩ := hQ5
  have N5 := Fr.app N0 Nq5
  refine own_st (T' := T5) (g' := (mkF m 19 #[rv t, iv (4 : Int32), iv (2 : Int32)] [(.ref u5), (.ref b1), (.ref b1)])) st5 ?_
  clear st5
  refine own_st (T' := T5) (g' := (mkF m 20 #[rv t, iv (4 : Int32), iv (2 : Int32)] [(.int (0 : Int32)), (.ref u5), (.ref b1), (.ref b1)])) (fun _ k_ => XS.iconst X5.here hx rfl (hb hby d26_19) k_) ?_
  have f6 : Exa Z T5.heap b1 "java/lang/String" := A1.keep K5
  have f7 : Fld Z T5.heap b1 "java/lang/String" "value" "[B" .null := F1_value.keep K5 nin0
  have f8 : Fld Z T5.heap b1 "java/lang/String" "coder" "B" (.int (0 : Int32)) := F1_coder.keep K5 nin0
  have f9 : Old Z n0 T5.heap := f3.keep K5 all0
  obtain ⟨_, T10, L10, X10, hQ10, st10⟩ := own_callI X5 hx (y := own_m12) rfl hown (mvT hZ (hw _ (List.mem_of_getElem? (i := 134) rfl))) (mvT hZ (hw _ (List.mem_of_getElem? (i := 135) rfl))) (mvT hZ (hw _ (List.mem_of_getElem? (i := 136) rfl))) (by decide) (backOf (W := 1) (rm_inbb l Z a0 hw [] b1 u5 T5.heap n0 f9 f6 f7 f8 fr1) hZ (hw _ (List.mem_of_getElem? (i := 136) rfl)) (hw _ (List.mem_of_getElem? (i := 6) rfl)) (by decide) (by decide)) (g := (mkF m 20 #[rv t, iv (4 : Int32), iv (2 : Int32)] [(.int (0 : Int32)), (.ref u5), (.ref b1), (.ref b1)])) rfl (by rw [hml]; rfl) (a := b1) (argsL := [(.ref u5), (.int (0 : Int32))]) (rest := [(.ref b1)]) (lenOf pd___BB_V rfl) rfl (by show 2 * 0 + _ ≤ _; exact Nat.le_of_eq rfl) (hb hby d26_20) rfl rfl (by decide) (by decide) (c' := 2) (s' := 6) rfl rfl
  obtain ⟨rfl, Nq10, K10, fq10_0, fq10_1, fq10_2⟩ := hQ10
  have N10 := Fr.app N5 Nq10
  refine own_st (T' := T10) (g' := (mkF m 23 #[rv t, iv (4 : Int32), iv (2 : Int32)] [(.ref b1)])) st10 ?_
  clear st10
  have f11 : Keep h0 T5.heap [] := f4.trans K5 all0
  have f12 : Keep h0 T10.heap [] := f11.trans K10 (allS (Or.inr sz1) all0)
  have ne13 : b1 ≠ u5 := Nat.ne_of_lt (Nat.lt_of_lt_of_le A1.lt xq5_fresh_u)
  have f14 : Arv Z T10.heap u5 ku5 .byte (2 : Int32) [(.int (x4.toInt8.toInt32)), (.int (x5.toInt8.toInt32))] (.int (0 : Int32)) := fq5_0.keep K10 (ninS (Ne.symm ne13) nin0)
  exact own_retA X10 hx hret rfl rfl hlk (hb hby d26_23) (by decide) (by decide) ⟨b1, u5, ku5, rfl, N10, f12, fq10_0, fq10_1, fq10_2, f14, sz1⟩
theorem ef_sub_3 (m : MethodId) (x0 : Addr) (x1 : Int32) (x2 : Int32) : entryFrame m #[(.ref x0), (.int x1), (.int x2)] 5 = mkF m 0 #[rv x0, iv x1, iv x2, .unset, .unset] [] := by first | (simp [entryFrame, mkF, argsToLocals, Value.category]; done) | rfl
def Q_sub_3 (Z : State) (x : Addr) (t : Addr) (kt : ClassId) (x0 : Int32) (x1 : Int32) (x2 : Int32) (x3 : Int32) (x4 : Int32) (x5 : Int32) (cz : Int32) (fm : Value) (h0 : Heap) (n0 : Nat) (v : Option Value) (h : Heap) (L : List Loc) : Prop := ∃ (b : Addr) (u : Addr) (ku : ClassId), (v = some (.ref b)) ∧ (Fr n0 L) ∧ (Keep h0 h []) ∧ (Exa Z h b "java/lang/String") ∧ (Fld Z h b "java/lang/String" "coder" "B" (.int (0 : Int32))) ∧ (Fld Z h b "java/lang/String" "value" "[B" (.ref u)) ∧ (Arv Z h u ku .byte (2 : Int32) [(.int (x4.toInt8.toInt32)), (.int (x5.toInt8.toInt32))] (.int (0 : Int32))) ∧ (h0.size ≤ b)
set_option maxRecDepth 65536 in
set_option maxHeartbeats 40000000 in
theorem rm_sub_3 (l : Launch) (Z : State) (a0 : Array Value) (hw : ∀ d ∈ tables_1, d.before a0 Z = true) (ws : List Jvm.Cond) (x : Addr) (t : Addr) (kt : ClassId) (x0 : Int32) (x1 : Int32) (x2 : Int32) (x3 : Int32) (x4 : Int32) (x5 : Int32) (cz : Int32) (fm : Value) (h0 : Heap) (n0 : Nat) (O0 : Old Z n0 h0) (E_x : Exa Z h0 x "java/lang/String") (V_x : Fld Z h0 x "java/lang/String" "value" "[B" (.ref t)) (C_x : Fld Z h0 x "java/lang/String" "coder" "B" (.int (0 : Int32))) (A_x : Arv Z h0 t kt .byte (6 : Int32) [(.int (x0.toInt8.toInt32)), (.int (x1.toInt8.toInt32)), (.int (x2.toInt8.toInt32)), (.int (x3.toInt8.toInt32)), (.int (x4.toInt8.toInt32)), (.int (x5.toInt8.toInt32))] (.int (0 : Int32))) (SC : Sta Z Z.heap "java/lang/String" "COMPACT_STRINGS" "Z" (.int cz)) (hcz : ¬ cz = (0 : Int32)) (SF : Sta Z Z.heap "jdk/internal/util/Preconditions" "SIOOBE_FORMATTER" "Ljava/util/function/BiFunction;" fm) (hfm : fm.isRef = true) :
    MetFree l own_m19 (head1 (Jvm.Cond.code own_m19 jdk_42_method_92_code 5 (some (.object "java/lang/String")) :: ws) ({ frames := 4, cells := 2, slots := 6, locals := 86 } : Room)) (fun ar_ U => ar_ = #[(.ref x), (.int (4 : Int32)), (.int (6 : Int32))] ∧ Z.Warmed39 U.vm ∧ U.heap = h0) (fun _ _ _ _ _ => True) (fun _ U o U' => ∃ v L, o = .returned v ∧ Q_sub_3 Z x t kt x0 x1 x2 x3 x4 x5 cz fm h0 n0 v U'.heap L ∧ FrameEnd U o U' L ({ frames := 4, cells := 2, slots := 6, locals := 86 } : Room).cells ({ frames := 4, cells := 2, slots := 6, locals := 86 } : Room).slots) := by
  refine MetFree.of_bodySF (plainFor_of_name pn_1) hisR ?_
  intro p e s m args below meth c s₁ Bd hml0 hP hK
  obtain ⟨rfl, hZ, hh⟩ := hP
  have hx := Bd.exec
  have hby := Bd.bytes
  have hml : c.maxLocals = 5 := hml0
  have hown : s.vm.findClass "java/lang/String" = some m.cls := findClass_of_methodNamed Bd.named
  have hnm := (name_of_methodNamed Bd.named Bd.method).1
  have X0 : Stand p l e ({ frames := 4, cells := 2, slots := 6, locals := 86 } : Room) s m #[(.ref x), (.int (4 : Int32)), (.int (6 : Int32))] below meth c s₁ [] 0 0 := Stand.of_body Bd
  have e0 : s₁.heap = h0 := by rw [← hh, Bd.state]; rfl
  have N0 := Fr.nil n0
  have hret := Bd.returns
  have hlk : meth.locks = false := Bd.notSynchronized
  show own_E p e below s ({ frames := 4, cells := 2, slots := 6, locals := 86 } : Room).cells ({ frames := 4, cells := 2, slots := 6, locals := 86 } : Room).slots (Q_sub_3 Z x t kt x0 x1 x2 x3 x4 x5 cz fm h0 n0) s₁ (entryFrame m #[(.ref x), (.int (4 : Int32)), (.int (6 : Int32))] 5)
  rw [ef_sub_3 m x (4 : Int32) (6 : Int32)]
  refine own_st (T' := s₁) (g' := (mkF m 1 #[rv x, iv (4 : Int32), iv (6 : Int32), .unset, .unset] [(.ref x)])) (fun _ k_ => XS.aloadN X0.here hx rfl (hb hby d22_0) rfl rfl  k_) ?_
  obtain ⟨cq1, kq1, q1a, q1b, q1c⟩ := isOf hZ e0 E_x
  obtain ⟨_, T1, L1, X1, hQ1, st1⟩ := own_callV X0 hx (y := own_m6) (z := own_m6) hown (mvT hZ (hw _ (List.mem_of_getElem? (i := 70) rfl))) (mvT hZ (hw _ (List.mem_of_getElem? (i := 71) rfl))) (notFace_of_selects (args := #[]) (mvT hZ (hw _ (List.mem_of_getElem? (i := 73) rfl)))) (mvT hZ (hw _ (List.mem_of_getElem? (i := 73) rfl))) (mvT hZ (hw _ (List.mem_of_getElem? (i := 72) rfl))) (by decide) (backOf (W := 0) (rm_len l Z a0 hw [] x t kt (6 : Int32) [(.int (x0.toInt8.toInt32)), (.int (x1.toInt8.toInt32)), (.int (x2.toInt8.toInt32)), (.int (x3.toInt8.toInt32)), (.int (x4.toInt8.toInt32)), (.int (x5.toInt8.toInt32))] cz h0 n0 O0 E_x V_x C_x A_x SC hcz) hZ (hw _ (List.mem_of_getElem? (i := 74) rfl)) (hw _ (List.mem_of_getElem? (i := 6) rfl)) (by decide) (by decide)) q1a q1c (g := (mkF m 1 #[rv x, iv (4 : Int32), iv (6 : Int32), .unset, .unset] [(.ref x)])) rfl (by rw [hml]; rfl) (argsL := []) (rest := []) (lenOf pd___I rfl) rfl (by show 2 * 0 + _ ≤ _; exact Nat.le_of_eq rfl) (hb hby d22_1) rfl e0 (by decide) (by decide) (c' := 0) (s' := 0) rfl rfl
  clear q1a q1b q1c kq1 cq1
  obtain ⟨rfl, Nq1, eq1⟩ := hQ1
  have N1 := Fr.app N0 Nq1
  refine own_st (T' := T1) (g' := (mkF m 4 #[rv x, iv (4 : Int32), iv (6 : Int32), .unset, .unset] [(.int (6 : Int32))])) st1 ?_
  clear st1
  refine own_st (T' := T1) (g' := (mkF m 5 #[rv x, iv (4 : Int32), iv (6 : Int32), iv (6 : Int32), .unset] [])) (fun _ k_ => XS.istoreN X1.here hx rfl (hb hby d22_4) rfl (l' := #[rv x, iv (4 : Int32), iv (6 : Int32), iv (6 : Int32), .unset]) rfl k_) ?_
  refine own_st (T' := T1) (g' := (mkF m 6 #[rv x, iv (4 : Int32), iv (6 : Int32), iv (6 : Int32), .unset] [(.int (4 : Int32))])) (fun _ k_ => XS.iloadN X1.here hx rfl (hb hby d22_5) rfl  k_) ?_
  refine own_st (T' := T1) (g' := (mkF m 7 #[rv x, iv (4 : Int32), iv (6 : Int32), iv (6 : Int32), .unset] [(.int (6 : Int32)), (.int (4 : Int32))])) (fun _ k_ => XS.iloadN X1.here hx rfl (hb hby d22_6) rfl  k_) ?_
  refine own_st (T' := T1) (g' := (mkF m 8 #[rv x, iv (4 : Int32), iv (6 : Int32), iv (6 : Int32), .unset] [(.int (6 : Int32)), (.int (6 : Int32)), (.int (4 : Int32))])) (fun _ k_ => XS.iloadN X1.here hx rfl (hb hby d22_7) rfl  k_) ?_
  obtain ⟨_, T2, L2, X2, hQ2, st2⟩ := own_callS X1 hx (y := own_m10) hown (mvT hZ (hw _ (List.mem_of_getElem? (i := 105) rfl))) (mvT hZ (hw _ (List.mem_of_getElem? (i := 106) rfl))) (mvT hZ (hw _ (List.mem_of_getElem? (i := 6) rfl))) (mvT hZ (hw _ (List.mem_of_getElem? (i := 107) rfl))) (by decide) (backOf (W := 0) (rm_cbe l Z a0 hw [] (4 : Int32) (6 : Int32) (6 : Int32) fm h0 n0 O0 (by decide) (by decide) (by decide) SF hfm) hZ (hw _ (List.mem_of_getElem? (i := 107) rfl)) (hw _ (List.mem_of_getElem? (i := 6) rfl)) (by decide) (by decide)) (g := (mkF m 8 #[rv x, iv (4 : Int32), iv (6 : Int32), iv (6 : Int32), .unset] [(.int (6 : Int32)), (.int (6 : Int32)), (.int (4 : Int32))])) rfl (by rw [hml]; rfl) (argsL := [(.int (4 : Int32)), (.int (6 : Int32)), (.int (6 : Int32))]) (rest := []) (lenOf pd__III_V rfl) rfl (by show 2 * 0 + _ ≤ _; exact Nat.le_of_eq rfl) (hb hby d22_8) rfl eq1 (by decide) (by decide) (c' := 0) (s' := 0) rfl rfl
  obtain ⟨rfl, Nq2, eq2⟩ := hQ2
  have N2 := Fr.app N1 Nq2
  refine own_st (T' := T2) (g' := (mkF m 11 #[rv x, iv (4 : Int32), iv (6 : Int32), iv (6 : Int32), .unset] [])) st2 ?_
  clear st2
  refine own_st (T' := T2) (g' := (mkF m 12 #[rv x, iv (4 : Int32), iv (6 : Int32), iv (6 : Int32), .unset] [(.int (4 : Int32))])) (fun _ k_ => XS.iloadN X2.here hx rfl (hb hby d22_11) rfl  k_) ?_
  refine own_st (T' := T2) (g' := (mkF m 22 #[rv x, iv (4 : Int32), iv (6 : Int32), iv (6 : Int32), .unset] [])) (fun _ k_ => XS.ifYes X2.here hx rfl (pc0 := 12) (pc' := 22) rfl (hb hby d22_12) rfl ((if0 _ _).trans (feq (by decide : ¬ ((4 : Int32) = (0 : Int32)))).2) (by decide) (by decide) k_) ?_
  refine own_st (T' := T2) (g' := (mkF m 23 #[rv x, iv (4 : Int32), iv (6 : Int32), iv (6 : Int32), .unset] [(.int (6 : Int32))])) (fun _ k_ => XS.iloadN X2.here hx rfl (hb hby d22_22) rfl  k_) ?_
  refine own_st (T' := T2) (g' := (mkF m 24 #[rv x, iv (4 : Int32), iv (6 : Int32), iv (6 : Int32), .unset] [(.int (4 : Int32)), (.int (6 : Int32))])) (fun _ k_ => XS.iloadN X2.here hx rfl (hb hby d22_23) rfl  k_) ?_
  refine own_st (T' := T2) (g' := (mkF m 25 #[rv x, iv (4 : Int32), iv (6 : Int32), iv (6 : Int32), .unset] [(.int (2 : Int32))])) (fun _ k_ => XS.isub X2.here hx rfl (hb hby d22_24) rfl k_) ?_
  refine own_st (T' := T2) (g' := (mkF m 27 #[rv x, iv (4 : Int32), iv (6 : Int32), iv (6 : Int32), iv (2 : Int32)] [])) (fun _ k_ => XS.istore X2.here hx rfl (hb hby d22_25) rfl (l' := #[rv x, iv (4 : Int32), iv (6 : Int32), iv (6 : Int32), iv (2 : Int32)]) rfl k_) ?_
  refine own_st (T' := T2) (g' := (mkF m 28 #[rv x, iv (4 : Int32), iv (6 : Int32), iv (6 : Int32), iv (2 : Int32)] [(.ref x)])) (fun _ k_ => XS.aloadN X2.here hx rfl (hb hby d22_27) rfl rfl  k_) ?_
  obtain ⟨cq3, kq3, q3a, q3b, q3c⟩ := isOf hZ eq2 E_x
  obtain ⟨_, T3, L3, X3, hQ3, st3⟩ := own_callV X2 hx (y := own_m7) (z := own_m7) hown (mvT hZ (hw _ (List.mem_of_getElem? (i := 20) rfl))) (mvT hZ (hw _ (List.mem_of_getElem? (i := 21) rfl))) (notFace_of_selects (args := #[]) (mvT hZ (hw _ (List.mem_of_getElem? (i := 23) rfl)))) (mvT hZ (hw _ (List.mem_of_getElem? (i := 23) rfl))) (mvT hZ (hw _ (List.mem_of_getElem? (i := 22) rfl))) (by decide) (backOf (W := 0) (rm_isl1 l Z a0 hw [] x cz h0 n0 O0 E_x C_x SC hcz) hZ (hw _ (List.mem_of_getElem? (i := 24) rfl)) (hw _ (List.mem_of_getElem? (i := 6) rfl)) (by decide) (by decide)) q3a q3c (g := (mkF m 28 #[rv x, iv (4 : Int32), iv (6 : Int32), iv (6 : Int32), iv (2 : Int32)] [(.ref x)])) rfl (by rw [hml]; rfl) (argsL := []) (rest := []) (lenOf pd___Z rfl) rfl (by show 2 * 0 + _ ≤ _; exact Nat.le_of_eq rfl) (hb hby d22_28) rfl eq2 (by decide) (by decide) (c' := 0) (s' := 0) rfl rfl
  clear q3a q3b q3c kq3 cq3
  obtain ⟨rfl, Nq3, eq3⟩ := hQ3
  have N3 := Fr.app N2 Nq3
  refine own_st (T' := T3) (g' := (mkF m 31 #[rv x, iv (4 : Int32), iv (6 : Int32), iv (6 : Int32), iv (2 : Int32)] [(.int (1 : Int32))])) st3 ?_
  clear st3
  refine own_st (T' := T3) (g' := (mkF m 34 #[rv x, iv (4 : Int32), iv (6 : Int32), iv (6 : Int32), iv (2 : Int32)] [])) (fun _ k_ => XS.ifNo X3.here hx rfl (hb hby d22_31) rfl ((if0 _ _).trans (feq (by decide : ¬ ((1 : Int32) = (0 : Int32)))).1) k_) ?_
  refine own_st (T' := T3) (g' := (mkF m 35 #[rv x, iv (4 : Int32), iv (6 : Int32), iv (6 : Int32), iv (2 : Int32)] [(.ref x)])) (fun _ k_ => XS.aloadN X3.here hx rfl (hb hby d22_34) rfl rfl  k_) ?_
  obtain ⟨T4, X4, e4, st4⟩ := getF X3 hx hZ hown (host := "") (Or.inl (hw _ (List.mem_of_getElem? (i := 27) rfl))) Via.refl eq3 V_x (g := (mkF m 35 #[rv x, iv (4 : Int32), iv (6 : Int32), iv (6 : Int32), iv (2 : Int32)] [(.ref x)])) rfl rfl (hb hby d22_35)
  refine own_st (T' := T4) (g' := (mkF m 38 #[rv x, iv (4 : Int32), iv (6 : Int32), iv (6 : Int32), iv (2 : Int32)] [(.ref t)])) st4 ?_
  clear st4
  refine own_st (T' := T4) (g' := (mkF m 39 #[rv x, iv (4 : Int32), iv (6 : Int32), iv (6 : Int32), iv (2 : Int32)] [(.int (4 : Int32)), (.ref t)])) (fun _ k_ => XS.iloadN X4.here hx rfl (hb hby d22_38) rfl  k_) ?_
  refine own_st (T' := T4) (g' := (mkF m 41 #[rv x, iv (4 : Int32), iv (6 : Int32), iv (6 : Int32), iv (2 : Int32)] [(.int (2 : Int32)), (.int (4 : Int32)), (.ref t)])) (fun _ k_ => XS.iload X4.here hx rfl (hb hby d22_39) rfl  k_) ?_
  obtain ⟨_, T5, L5, X5, hQ5, st5⟩ := own_callS X4 hx (y := own_m24) hown (mvT hZ (hw _ (List.mem_of_getElem? (i := 115) rfl))) (mvT hZ (hw _ (List.mem_of_getElem? (i := 116) rfl))) (mvT hZ (hw _ (List.mem_of_getElem? (i := 30) rfl))) (mvT hZ (hw _ (List.mem_of_getElem? (i := 117) rfl))) (by decide) (backOf (W := 0) (rm_nws_3 l Z a0 hw [] t kt x0 x1 x2 x3 x4 x5 h0 n0 O0 A_x) hZ (hw _ (List.mem_of_getElem? (i := 117) rfl)) (hw _ (List.mem_of_getElem? (i := 30) rfl)) (by decide) (by decide)) (g := (mkF m 41 #[rv x, iv (4 : Int32), iv (6 : Int32), iv (6 : Int32), iv (2 : Int32)] [(.int (2 : Int32)), (.int (4 : Int32)), (.ref t)])) rfl (by rw [hml]; rfl) (argsL := [(.ref t), (.int (4 : Int32)), (.int (2 : Int32))]) (rest := []) (lenOf pd___BII_Ljava_lang_String_ rfl) rfl (by show 2 * 0 + _ ≤ _; exact Nat.le_of_eq rfl) (hb hby d22_41) rfl e4 (by decide) (by decide) (c' := 2) (s' := 6) rfl rfl
  obtain ⟨b5, u5, ku5, rfl, Nq5, K5, fq5_0, fq5_1, fq5_2, fq5_3, xq5_fresh_b⟩ := hQ5
  have N5 := Fr.app N3 Nq5
  refine own_st (T' := T5) (g' := (mkF m 44 #[rv x, iv (4 : Int32), iv (6 : Int32), iv (6 : Int32), iv (2 : Int32)] [(.ref b5)])) st5 ?_
  clear st5
  refine own_st (T' := T5) (g' := (mkF m 57 #[rv x, iv (4 : Int32), iv (6 : Int32), iv (6 : Int32), iv (2 : Int32)] [(.ref b5)])) (fun _ k_ => XS.goto X5.here hx rfl (pc0 := 44) (pc' := 57) rfl (hb hby d22_44) (by decide) (by decide) k_) ?_
  have f6 : Keep h0 T5.heap [] := (Keep.refl h0 []).trans K5 all0
  exact own_retA X5 hx hret rfl rfl hlk (hb hby d22_57) (by decide) (by decide) ⟨b5, u5, ku5, rfl, N5, f6, fq5_0, fq5_1, fq5_2, fq5_3, (Nat.le_trans (Keep.refl h0 []).1 xq5_fresh_b)⟩
theorem ef_su1_3 (m : MethodId) (x0 : Addr) (x1 : Int32) : entryFrame m #[(.ref x0), (.int x1)] 2 = mkF m 0 #[rv x0, iv x1] [] := by first | (simp [entryFrame, mkF, argsToLocals, Value.category]; done) | rfl
def Q_su1_3 (Z : State) (x : Addr) (t : Addr) (kt : ClassId) (c0 : Int32) (c1 : Int32) (c2 : Int32) (c4 : Int32) (c5 : Int32) (cz : Int32) (fm : Value) (h0 : Heap) (n0 : Nat) (v : Option Value) (h : Heap) (L : List Loc) : Prop := ∃ (b : Addr) (u : Addr) (ku : ClassId), (v = some (.ref b)) ∧ (Fr n0 L) ∧ (Keep h0 h []) ∧ (Exa Z h b "java/lang/String") ∧ (Fld Z h b "java/lang/String" "coder" "B" (.int (0 : Int32))) ∧ (Fld Z h b "java/lang/String" "value" "[B" (.ref u)) ∧ (Arv Z h u ku .byte (2 : Int32) [(.int (c4.toInt8.toInt32)), (.int (c5.toInt8.toInt32))] (.int (0 : Int32))) ∧ (h0.size ≤ b)
set_option maxRecDepth 65536 in
set_option maxHeartbeats 40000000 in
theorem rm_su1_3 (l : Launch) (Z : State) (a0 : Array Value) (hw : ∀ d ∈ tables_1, d.before a0 Z = true) (ws : List Jvm.Cond) (x : Addr) (t : Addr) (kt : ClassId) (c0 : Int32) (c1 : Int32) (c2 : Int32) (c4 : Int32) (c5 : Int32) (cz : Int32) (fm : Value) (h0 : Heap) (n0 : Nat) (O0 : Old Z n0 h0) (E_x : Exa Z h0 x "java/lang/String") (V_x : Fld Z h0 x "java/lang/String" "value" "[B" (.ref t)) (C_x : Fld Z h0 x "java/lang/String" "coder" "B" (.int (0 : Int32))) (A_x : Arv Z h0 t kt .byte (6 : Int32) [(.int (c0.toInt8.toInt32)), (.int (c1.toInt8.toInt32)), (.int (c2.toInt8.toInt32)), (.int ((58 : Int32).toInt8.toInt32)), (.int (c4.toInt8.toInt32)), (.int (c5.toInt8.toInt32))] (.int (0 : Int32))) (SC : Sta Z Z.heap "java/lang/String" "COMPACT_STRINGS" "Z" (.int cz)) (hcz : ¬ cz = (0 : Int32)) (SF : Sta Z Z.heap "jdk/internal/util/Preconditions" "SIOOBE_FORMATTER" "Ljava/util/function/BiFunction;" fm) (hfm : fm.isRef = true) :
    MetFree l own_m20 (head1 (Jvm.Cond.code own_m20 jdk_42_method_91_code 2 (some (.object "java/lang/String")) :: ws) ({ frames := 5, cells := 2, slots := 6, locals := 102 } : Room)) (fun ar_ U => ar_ = #[(.ref x), (.int (4 : Int32))] ∧ Z.Warmed39 U.vm ∧ U.heap = h0) (fun _ _ _ _ _ => True) (fun _ U o U' => ∃ v L, o = .returned v ∧ Q_su1_3 Z x t kt c0 c1 c2 c4 c5 cz fm h0 n0 v U'.heap L ∧ FrameEnd U o U' L ({ frames := 5, cells := 2, slots := 6, locals := 102 } : Room).cells ({ frames := 5, cells := 2, slots := 6, locals := 102 } : Room).slots) := by
  refine MetFree.of_bodySF (plainFor_of_name pn_1) hisR ?_
  intro p e s m args below meth c s₁ Bd hml0 hP hK
  obtain ⟨rfl, hZ, hh⟩ := hP
  have hx := Bd.exec
  have hby := Bd.bytes
  have hml : c.maxLocals = 2 := hml0
  have hown : s.vm.findClass "java/lang/String" = some m.cls := findClass_of_methodNamed Bd.named
  have hnm := (name_of_methodNamed Bd.named Bd.method).1
  have X0 : Stand p l e ({ frames := 5, cells := 2, slots := 6, locals := 102 } : Room) s m #[(.ref x), (.int (4 : Int32))] below meth c s₁ [] 0 0 := Stand.of_body Bd
  have e0 : s₁.heap = h0 := by rw [← hh, Bd.state]; rfl
  have N0 := Fr.nil n0
  have hret := Bd.returns
  have hlk : meth.locks = false := Bd.notSynchronized
  show own_E p e below s ({ frames := 5, cells := 2, slots := 6, locals := 102 } : Room).cells ({ frames := 5, cells := 2, slots := 6, locals := 102 } : Room).slots (Q_su1_3 Z x t kt c0 c1 c2 c4 c5 cz fm h0 n0) s₁ (entryFrame m #[(.ref x), (.int (4 : Int32))] 2)
  rw [ef_su1_3 m x (4 : Int32)]
  refine own_st (T' := s₁) (g' := (mkF m 1 #[rv x, iv (4 : Int32)] [(.ref x)])) (fun _ k_ => XS.aloadN X0.here hx rfl (hb hby d21_0) rfl rfl  k_) ?_
  refine own_st (T' := s₁) (g' := (mkF m 2 #[rv x, iv (4 : Int32)] [(.int (4 : Int32)), (.ref x)])) (fun _ k_ => XS.iloadN X0.here hx rfl (hb hby d21_1) rfl  k_) ?_
  refine own_st (T' := s₁) (g' := (mkF m 3 #[rv x, iv (4 : Int32)] [(.ref x), (.int (4 : Int32)), (.ref x)])) (fun _ k_ => XS.aloadN X0.here hx rfl (hb hby d21_2) rfl rfl  k_) ?_
  obtain ⟨cq1, kq1, q1a, q1b, q1c⟩ := isOf hZ e0 E_x
  obtain ⟨_, T1, L1, X1, hQ1, st1⟩ := own_callV X0 hx (y := own_m6) (z := own_m6) hown (mvT hZ (hw _ (List.mem_of_getElem? (i := 70) rfl))) (mvT hZ (hw _ (List.mem_of_getElem? (i := 71) rfl))) (notFace_of_selects (args := #[]) (mvT hZ (hw _ (List.mem_of_getElem? (i := 73) rfl)))) (mvT hZ (hw _ (List.mem_of_getElem? (i := 73) rfl))) (mvT hZ (hw _ (List.mem_of_getElem? (i := 72) rfl))) (by decide) (backOf (W := 2) (rm_len l Z a0 hw [] x t kt (6 : Int32) [(.int (c0.toInt8.toInt32)), (.int (c1.toInt8.toInt32)), (.int (c2.toInt8.toInt32)), (.int ((58 : Int32).toInt8.toInt32)), (.int (c4.toInt8.toInt32)), (.int (c5.toInt8.toInt32))] cz h0 n0 O0 E_x V_x C_x A_x SC hcz) hZ (hw _ (List.mem_of_getElem? (i := 74) rfl)) (hw _ (List.mem_of_getElem? (i := 6) rfl)) (by decide) (by decide)) q1a q1c (g := (mkF m 3 #[rv x, iv (4 : Int32)] [(.ref x), (.int (4 : Int32)), (.ref x)])) rfl (by rw [hml]; rfl) (argsL := []) (rest := [(.int (4 : Int32)), (.ref x)]) (lenOf pd___I rfl) rfl (by show 2 * 0 + _ ≤ _; exact Nat.le_of_eq rfl) (hb hby d21_3) rfl e0 (by decide) (by decide) (c' := 0) (s' := 0) rfl rfl
  clear q1a q1b q1c kq1 cq1
  obtain ⟨rfl, Nq1, eq1⟩ := hQ1
  have N1 := Fr.app N0 Nq1
  refine own_st (T' := T1) (g' := (mkF m 6 #[rv x, iv (4 : Int32)] [(.int (6 : Int32)), (.int (4 : Int32)), (.ref x)])) st1 ?_
  clear st1
  obtain ⟨cq2, kq2, q2a, q2b, q2c⟩ := isOf hZ eq1 E_x
  obtain ⟨_, T2, L2, X2, hQ2, st2⟩ := own_callV X1 hx (y := own_m19) (z := own_m19) hown (mvT hZ (hw _ (List.mem_of_getElem? (i := 100) rfl))) (mvT hZ (hw _ (List.mem_of_getElem? (i := 101) rfl))) (notFace_of_selects (args := #[]) (mvT hZ (hw _ (List.mem_of_getElem? (i := 103) rfl)))) (mvT hZ (hw _ (List.mem_of_getElem? (i := 103) rfl))) (mvT hZ (hw _ (List.mem_of_getElem? (i := 102) rfl))) (by decide) (backOf (W := 0) (rm_sub_3 l Z a0 hw [] x t kt c0 c1 c2 (58 : Int32) c4 c5 cz fm h0 n0 O0 E_x V_x C_x A_x SC hcz SF hfm) hZ (hw _ (List.mem_of_getElem? (i := 104) rfl)) (hw _ (List.mem_of_getElem? (i := 6) rfl)) (by decide) (by decide)) q2a q2c (g := (mkF m 6 #[rv x, iv (4 : Int32)] [(.int (6 : Int32)), (.int (4 : Int32)), (.ref x)])) rfl (by rw [hml]; rfl) (argsL := [(.int (4 : Int32)), (.int (6 : Int32))]) (rest := []) (lenOf pd__II_Ljava_lang_String_ rfl) rfl (by show 2 * 0 + _ ≤ _; exact Nat.le_of_eq rfl) (hb hby d21_6) rfl eq1 (by decide) (by decide) (c' := 2) (s' := 6) rfl rfl
  clear q2a q2b q2c kq2 cq2
  obtain ⟨b2, u2, ku2, rfl, Nq2, K2, fq2_0, fq2_1, fq2_2, fq2_3, xq2_fresh_b⟩ := hQ2
  have N2 := Fr.app N1 Nq2
  refine own_st (T' := T2) (g' := (mkF m 9 #[rv x, iv (4 : Int32)] [(.ref b2)])) st2 ?_
  clear st2
  have f3 : Keep h0 T2.heap [] := (Keep.refl h0 []).trans K2 all0
  exact own_retA X2 hx hret rfl rfl hlk (hb hby d21_9) (by decide) (by decide) ⟨b2, u2, ku2, rfl, N2, f3, fq2_0, fq2_1, fq2_2, fq2_3, (Nat.le_trans (Keep.refl h0 []).1 xq2_fresh_b)⟩
theorem ef_lp_3 (m : MethodId) (x0 : Addr) : entryFrame m #[(.ref x0)] 1 = mkF m 0 #[rv x0] [] := by first | (simp [entryFrame, mkF, argsToLocals, Value.category]; done) | rfl
def Q_lp_3 (Z : State) (x : Addr) (t : Addr) (kt : ClassId) (c0 : Int32) (c1 : Int32) (c2 : Int32) (c4 : Int32) (c5 : Int32) (cz : Int32) (fm : Value) (h0 : Heap) (n0 : Nat) (v : Option Value) (h : Heap) (L : List Loc) : Prop := ∃ (b : Addr) (u : Addr) (ku : ClassId), (v = some (.ref b)) ∧ (Fr n0 L) ∧ (Keep h0 h []) ∧ (Exa Z h b "java/lang/String") ∧ (Fld Z h b "java/lang/String" "coder" "B" (.int (0 : Int32))) ∧ (Fld Z h b "java/lang/String" "value" "[B" (.ref u)) ∧ (Arv Z h u ku .byte (2 : Int32) [(.int (c4.toInt8.toInt32)), (.int (c5.toInt8.toInt32))] (.int (0 : Int32))) ∧ (h0.size ≤ b)
set_option maxRecDepth 65536 in
set_option maxHeartbeats 40000000 in
theorem rm_lp_3 (l : Launch) (Z : State) (a0 : Array Value) (hw : ∀ d ∈ tables_1, d.before a0 Z = true) (ws : List Jvm.Cond) (x : Addr) (t : Addr) (kt : ClassId) (c0 : Int32) (c1 : Int32) (c2 : Int32) (c4 : Int32) (c5 : Int32) (cz : Int32) (fm : Value) (h0 : Heap) (n0 : Nat) (O0 : Old Z n0 h0) (E_x : Exa Z h0 x "java/lang/String") (V_x : Fld Z h0 x "java/lang/String" "value" "[B" (.ref t)) (C_x : Fld Z h0 x "java/lang/String" "coder" "B" (.int (0 : Int32))) (A_x : Arv Z h0 t kt .byte (6 : Int32) [(.int (c0.toInt8.toInt32)), (.int (c1.toInt8.toInt32)), (.int (c2.toInt8.toInt32)), (.int ((58 : Int32).toInt8.toInt32)), (.int (c4.toInt8.toInt32)), (.int (c5.toInt8.toInt32))] (.int (0 : Int32))) (hn4 : ¬ (c4.toInt8.toInt32) = ((58 : Int32).toInt8.toInt32)) (hn5 : ¬ (c5.toInt8.toInt32) = ((58 : Int32).toInt8.toInt32)) (SC : Sta Z Z.heap "java/lang/String" "COMPACT_STRINGS" "Z" (.int cz)) (hcz : ¬ cz = (0 : Int32)) (SF : Sta Z Z.heap "jdk/internal/util/Preconditions" "SIOOBE_FORMATTER" "Ljava/util/function/BiFunction;" fm) (hfm : fm.isRef = true) :
    MetFree l own_m21 (head1 (Jvm.Cond.code own_m21 prog_26_method_7_code 1 (some (.object "java/lang/String")) :: ws) ({ frames := 6, cells := 2, slots := 6, locals := 115 } : Room)) (fun ar_ U => ar_ = #[(.ref x)] ∧ Z.Warmed39 U.vm ∧ U.heap = h0) (fun _ _ _ _ _ => True) (fun _ U o U' => ∃ v L, o = .returned v ∧ Q_lp_3 Z x t kt c0 c1 c2 c4 c5 cz fm h0 n0 v U'.heap L ∧ FrameEnd U o U' L ({ frames := 6, cells := 2, slots := 6, locals := 115 } : Room).cells ({ frames := 6, cells := 2, slots := 6, locals := 115 } : Room).slots) := by
  refine MetFree.of_bodySF (plainFor_of_name pn_6) hisR ?_
  intro p e s m args below meth c s₁ Bd hml0 hP hK
  obtain ⟨rfl, hZ, hh⟩ := hP
  have hx := Bd.exec
  have hby := Bd.bytes
  have hml : c.maxLocals = 1 := hml0
  have hown : s.vm.findClass "com/example/sheafgate/sheafgate/store/SetSpecs" = some m.cls := findClass_of_methodNamed Bd.named
  have hnm := (name_of_methodNamed Bd.named Bd.method).1
  have X0 : Stand p l e ({ frames := 6, cells := 2, slots := 6, locals := 115 } : Room) s m #[(.ref x)] below meth c s₁ [] 0 0 := Stand.of_body Bd
  have e0 : s₁.heap = h0 := by rw [← hh, Bd.state]; rfl
  have N0 := Fr.nil n0
  have hret := Bd.returns
  have hlk : meth.locks = false := Bd.notSynchronized
  show own_E p e below s ({ frames := 6, cells := 2, slots := 6, locals := 115 } : Room).cells ({ frames := 6, cells := 2, slots := 6, locals := 115 } : Room).slots (Q_lp_3 Z x t kt c0 c1 c2 c4 c5 cz fm h0 n0) s₁ (entryFrame m #[(.ref x)] 1)
  rw [ef_lp_3 m x]
  refine own_st (T' := s₁) (g' := (mkF m 1 #[rv x] [(.ref x)])) (fun _ k_ => XS.aloadN X0.here hx rfl (hb hby d13_0) rfl rfl  k_) ?_
  refine own_st (T' := s₁) (g' := (mkF m 2 #[rv x] [(.ref x), (.ref x)])) (fun _ k_ => XS.aloadN X0.here hx rfl (hb hby d13_1) rfl rfl  k_) ?_
  refine own_st (T' := s₁) (g' := (mkF m 4 #[rv x] [(.int (58 : Int32)), (.ref x), (.ref x)])) (fun _ k_ => XS.bipush X0.here hx rfl (hb hby d13_2) k_) ?_
  obtain ⟨cq1, kq1, q1a, q1b, q1c⟩ := isOf hZ e0 E_x
  obtain ⟨_, T1, L1, X1, hQ1, st1⟩ := own_callV X0 hx (y := own_m18) (z := own_m18) hown (mvT hZ (hw _ (List.mem_of_getElem? (i := 65) rfl))) (mvT hZ (hw _ (List.mem_of_getElem? (i := 66) rfl))) (notFace_of_selects (args := #[]) (mvT hZ (hw _ (List.mem_of_getElem? (i := 68) rfl)))) (mvT hZ (hw _ (List.mem_of_getElem? (i := 68) rfl))) (mvT hZ (hw _ (List.mem_of_getElem? (i := 67) rfl))) (by decide) (backOf (W := 1) (rm_li1 l Z a0 hw [] x t kt c0 c1 c2 (58 : Int32) c4 c5 cz h0 n0 O0 E_x V_x C_x A_x SC hcz) hZ (hw _ (List.mem_of_getElem? (i := 69) rfl)) (hw _ (List.mem_of_getElem? (i := 6) rfl)) (by decide) (by decide)) q1a q1c (g := (mkF m 4 #[rv x] [(.int (58 : Int32)), (.ref x), (.ref x)])) rfl (by rw [hml]; rfl) (argsL := [(.int (58 : Int32))]) (rest := [(.ref x)]) (lenOf pd__I_I rfl) rfl (by show 2 * 0 + _ ≤ _; exact Nat.le_of_eq rfl) (hb hby d13_4) rfl e0 (by decide) (by decide) (c' := 0) (s' := 0) rfl rfl
  clear q1a q1b q1c kq1 cq1
  obtain ⟨rfl, Nq1, eq1⟩ := hQ1
  have N1 := Fr.app N0 Nq1
  refine own_st (T' := T1) (g' := (mkF m 7 #[rv x] [(.int (own_la c0 c1 c2 (58 : Int32) c4 c5)), (.ref x)])) st1 ?_
  clear st1
  rw [own_la3 c0 c1 c2 c4 c5 hn4 hn5]
  refine own_st (T' := T1) (g' := (mkF m 8 #[rv x] [(.int (1 : Int32)), (.int (3 : Int32)), (.ref x)])) (fun _ k_ => XS.iconst X1.here hx rfl (hb hby d13_7) k_) ?_
  refine own_st (T' := T1) (g' := (mkF m 9 #[rv x] [(.int (4 : Int32)), (.ref x)])) (fun _ k_ => XS.iadd X1.here hx rfl (hb hby d13_8) rfl k_) ?_
  obtain ⟨cq2, kq2, q2a, q2b, q2c⟩ := isOf hZ eq1 E_x
  obtain ⟨_, T2, L2, X2, hQ2, st2⟩ := own_callV X1 hx (y := own_m20) (z := own_m20) hown (mvT hZ (hw _ (List.mem_of_getElem? (i := 95) rfl))) (mvT hZ (hw _ (List.mem_of_getElem? (i := 96) rfl))) (notFace_of_selects (args := #[]) (mvT hZ (hw _ (List.mem_of_getElem? (i := 98) rfl)))) (mvT hZ (hw _ (List.mem_of_getElem? (i := 98) rfl))) (mvT hZ (hw _ (List.mem_of_getElem? (i := 97) rfl))) (by decide) (backOf (W := 0) (rm_su1_3 l Z a0 hw [] x t kt c0 c1 c2 c4 c5 cz fm h0 n0 O0 E_x V_x C_x A_x SC hcz SF hfm) hZ (hw _ (List.mem_of_getElem? (i := 99) rfl)) (hw _ (List.mem_of_getElem? (i := 6) rfl)) (by decide) (by decide)) q2a q2c (g := (mkF m 9 #[rv x] [(.int (4 : Int32)), (.ref x)])) rfl (by rw [hml]; rfl) (argsL := [(.int (4 : Int32))]) (rest := []) (lenOf pd__I_Ljava_lang_String_ rfl) rfl (by show 2 * 0 + _ ≤ _; exact Nat.le_of_eq rfl) (hb hby d13_9) rfl eq1 (by decide) (by decide) (c' := 2) (s' := 6) rfl rfl
  clear q2a q2b q2c kq2 cq2
  obtain ⟨b2, u2, ku2, rfl, Nq2, K2, fq2_0, fq2_1, fq2_2, fq2_3, xq2_fresh_b⟩ := hQ2
  have N2 := Fr.app N1 Nq2
  refine own_st (T' := T2) (g' := (mkF m 12 #[rv x] [(.ref b2)])) st2 ?_
  clear st2
  have f3 : Keep h0 T2.heap [] := (Keep.refl h0 []).trans K2 all0
  exact own_retA X2 hx hret rfl rfl hlk (hb hby d13_12) (by decide) (by decide) ⟨b2, u2, ku2, rfl, N2, f3, fq2_0, fq2_1, fq2_2, fq2_3, (Nat.le_trans (Keep.refl h0 []).1 xq2_fresh_b)⟩
theorem own_la4 (c0 c1 c2 c3 c5 : Int32) (hn5 : ¬ (c5.toInt8.toInt32) = ((58 : Int32).toInt8.toInt32)) : own_la c0 c1 c2 c3 (58 : Int32) c5 = 4 := by unfold own_la; rw [if_neg hn5, if_pos rfl]
theorem ef_crb_4 (m : MethodId) (x0 : Addr) (x1 : Int32) (x2 : Int32) : entryFrame m #[(.ref x0), (.int x1), (.int x2)] 5 = mkF m 0 #[rv x0, iv x1, iv x2, .unset, .unset] [] := by first | (simp [entryFrame, mkF, argsToLocals, Value.category]; done) | rfl
def Q_crb_4 (Z : State) (t : Addr) (kt : ClassId) (x0 : Int32) (x1 : Int32) (x2 : Int32) (x3 : Int32) (x4 : Int32) (x5 : Int32) (h0 : Heap) (n0 : Nat) (v : Option Value) (h : Heap) (L : List Loc) : Prop := ∃ (u : Addr) (ku : ClassId), (v = some (.ref u)) ∧ (Fr n0 L) ∧ (Keep h0 h []) ∧ (Arv Z h u ku .byte (1 : Int32) [(.int (x5.toInt8.toInt32))] (.int (0 : Int32))) ∧ (h0.size ≤ u)
set_option maxRecDepth 65536 in
set_option maxHeartbeats 40000000 in
theorem rm_crb_4 (l : Launch) (Z : State) (a0 : Array Value) (hw : ∀ d ∈ tables_1, d.before a0 Z = true) (ws : List Jvm.Cond) (t : Addr) (kt : ClassId) (x0 : Int32) (x1 : Int32) (x2 : Int32) (x3 : Int32) (x4 : Int32) (x5 : Int32) (h0 : Heap) (n0 : Nat) (O0 : Old Z n0 h0) (A_x : Arv Z h0 t kt .byte (6 : Int32) [(.int (x0.toInt8.toInt32)), (.int (x1.toInt8.toInt32)), (.int (x2.toInt8.toInt32)), (.int (x3.toInt8.toInt32)), (.int (x4.toInt8.toInt32)), (.int (x5.toInt8.toInt32))] (.int (0 : Int32))) :
    MetFree l own_m22 (head1 (Jvm.Cond.code own_m22 jdk_65_method_133_code 5 (some (.array .byte)) :: ws) ({ frames := 1, cells := 1, slots := 1, locals := 40 } : Room)) (fun ar_ U => ar_ = #[(.ref t), (.int (5 : Int32)), (.int (6 : Int32))] ∧ Z.Warmed39 U.vm ∧ U.heap = h0) (fun _ _ _ _ _ => True) (fun _ U o U' => ∃ v L, o = .returned v ∧ Q_crb_4 Z t kt x0 x1 x2 x3 x4 x5 h0 n0 v U'.heap L ∧ FrameEnd U o U' L ({ frames := 1, cells := 1, slots := 1, locals := 40 } : Room).cells ({ frames := 1, cells := 1, slots := 1, locals := 40 } : Room).slots) := by
  refine MetFree.of_bodySF (plainFor_of_name pn_3) hisR ?_
  intro p e s m args below meth c s₁ Bd hml0 hP hK
  obtain ⟨rfl, hZ, hh⟩ := hP
  have hx := Bd.exec
  have hby := Bd.bytes
  have hml : c.maxLocals = 5 := hml0
  have hown : s.vm.findClass "java/util/Arrays" = some m.cls := findClass_of_methodNamed Bd.named
  have hnm := (name_of_methodNamed Bd.named Bd.method).1
  have X0 : Stand p l e ({ frames := 1, cells := 1, slots := 1, locals := 40 } : Room) s m #[(.ref t), (.int (5 : Int32)), (.int (6 : Int32))] below meth c s₁ [] 0 0 := Stand.of_body Bd
  have e0 : s₁.heap = h0 := by rw [← hh, Bd.state]; rfl
  have N0 := Fr.nil n0
  have hret := Bd.returns
  have hlk : meth.locks = false := Bd.notSynchronized
  show own_E p e below s ({ frames := 1, cells := 1, slots := 1, locals := 40 } : Room).cells ({ frames := 1, cells := 1, slots := 1, locals := 40 } : Room).slots (Q_crb_4 Z t kt x0 x1 x2 x3 x4 x5 h0 n0) s₁ (entryFrame m #[(.ref t), (.int (5 : Int32)), (.int (6 : Int32))] 5)
  rw [ef_crb_4 m t (5 : Int32) (6 : Int32)]
  refine own_st (T' := s₁) (g' := (mkF m 1 #[rv t, iv (5 : Int32), iv (6 : Int32), .unset, .unset] [(.int (5 : Int32))])) (fun _ k_ => XS.iloadN X0.here hx rfl (hb hby d28_0) rfl  k_) ?_
  refine own_st (T' := s₁) (g' := (mkF m 2 #[rv t, iv (5 : Int32), iv (6 : Int32), .unset, .unset] [(.int (6 : Int32)), (.int (5 : Int32))])) (fun _ k_ => XS.iloadN X0.here hx rfl (hb hby d28_1) rfl  k_) ?_
  obtain ⟨_, T1, L1, X1, hQ1, st1⟩ := own_callS X0 hx (y := own_m11) hown (mvT hZ (hw _ (List.mem_of_getElem? (i := 126) rfl))) (mvT hZ (hw _ (List.mem_of_getElem? (i := 127) rfl))) (mvT hZ (hw _ (List.mem_of_getElem? (i := 121) rfl))) (mvT hZ (hw _ (List.mem_of_getElem? (i := 128) rfl))) (by decide) (backOf (W := 0) (rm_ckl l Z a0 hw [] (5 : Int32) (6 : Int32) h0 n0 O0 (by decide)) hZ (hw _ (List.mem_of_getElem? (i := 128) rfl)) (hw _ (List.mem_of_getElem? (i := 121) rfl)) (by decide) (by decide)) (g := (mkF m 2 #[rv t, iv (5 : Int32), iv (6 : Int32), .unset, .unset] [(.int (6 : Int32)), (.int (5 : Int32))])) rfl (by rw [hml]; rfl) (argsL := [(.int (5 : Int32)), (.int (6 : Int32))]) (rest := []) (lenOf pd__II_V rfl) rfl (by show 2 * 0 + _ ≤ _; exact Nat.le_of_eq rfl) (hb hby d28_2) rfl e0 (by decide) (by decide) (c' := 0) (s' := 0) rfl rfl
  obtain ⟨rfl, Nq1, eq1⟩ := hQ1
  have N1 := Fr.app N0 Nq1
  refine own_st (T' := T1) (g' := (mkF m 5 #[rv t, iv (5 : Int32), iv (6 : Int32), .unset, .unset] [])) st1 ?_
  clear st1
  refine own_st (T' := T1) (g' := (mkF m 6 #[rv t, iv (5 : Int32), iv (6 : Int32), .unset, .unset] [(.int (6 : Int32))])) (fun _ k_ => XS.iloadN X1.here hx rfl (hb hby d28_5) rfl  k_) ?_
  refine own_st (T' := T1) (g' := (mkF m 7 #[rv t, iv (5 : Int32), iv (6 : Int32), .unset, .unset] [(.int (5 : Int32)), (.int (6 : Int32))])) (fun _ k_ => XS.iloadN X1.here hx rfl (hb hby d28_6) rfl  k_) ?_
  refine own_st (T' := T1) (g' := (mkF m 8 #[rv t, iv (5 : Int32), iv (6 : Int32), .unset, .unset] [(.int (1 : Int32))])) (fun _ k_ => XS.isub X1.here hx rfl (hb hby d28_7) rfl k_) ?_
  refine own_st (T' := T1) (g' := (mkF m 9 #[rv t, iv (5 : Int32), iv (6 : Int32), iv (1 : Int32), .unset] [])) (fun _ k_ => XS.istoreN X1.here hx rfl (hb hby d28_8) rfl (l' := #[rv t, iv (5 : Int32), iv (6 : Int32), iv (1 : Int32), .unset]) rfl k_) ?_
  refine own_st (T' := T1) (g' := (mkF m 10 #[rv t, iv (5 : Int32), iv (6 : Int32), iv (1 : Int32), .unset] [(.int (1 : Int32))])) (fun _ k_ => XS.iloadN X1.here hx rfl (hb hby d28_9) rfl  k_) ?_
  obtain ⟨T2, h2, k2, X2, e2, E2, A2, st2⟩ := newP X1 hx hZ (hw _ (List.mem_of_getElem? (i := 8) rfl)) eq1 (g := (mkF m 10 #[rv t, iv (5 : Int32), iv (6 : Int32), iv (1 : Int32), .unset] [(.int (1 : Int32))])) rfl (hb hby d28_10) rfl (by decide) (cap := 1) (by decide) (by decide) (by decide) (by decide)
  obtain ⟨b2, g2⟩ : ∃ z, z = h0.size := ⟨_, rfl⟩
  rw [← g2] at A2 st2
  have fr2 : n0 ≤ b2 := Nat.le_trans (own_z O0) (Nat.le_of_eq g2.symm)
  have sz2 : h0.size ≤ b2 := Nat.le_trans (Keep.refl h0 []).1 (Nat.le_of_eq g2.symm)
  have V2 : Arv Z h2 b2 k2 .byte (1 : Int32) [(.int (0 : Int32))] (.int (0 : Int32)) := (Arv.new A2 (by decide)).pad (pad_rep [] (.int (0 : Int32)) 1)
  refine own_st (T' := T2) (g' := (mkF m 12 #[rv t, iv (5 : Int32), iv (6 : Int32), iv (1 : Int32), .unset] [(.ref b2)])) st2 ?_
  clear st2
  refine own_st (T' := T2) (g' := (mkF m 14 #[rv t, iv (5 : Int32), iv (6 : Int32), iv (1 : Int32), rv b2] [])) (fun _ k_ => XS.astore X2.here hx rfl (hb hby d28_12) rfl rfl (l' := #[rv t, iv (5 : Int32), iv (6 : Int32), iv (1 : Int32), rv b2]) rfl k_) ?_
  refine own_st (T' := T2) (g' := (mkF m 15 #[rv t, iv (5 : Int32), iv (6 : Int32), iv (1 : Int32), rv b2] [(.ref t)])) (fun _ k_ => XS.aloadN X2.here hx rfl (hb hby d28_14) rfl rfl  k_) ?_
  refine own_st (T' := T2) (g' := (mkF m 16 #[rv t, iv (5 : Int32), iv (6 : Int32), iv (1 : Int32), rv b2] [(.int (5 : Int32)), (.ref t)])) (fun _ k_ => XS.iloadN X2.here hx rfl (hb hby d28_15) rfl  k_) ?_
  refine own_st (T' := T2) (g' := (mkF m 18 #[rv t, iv (5 : Int32), iv (6 : Int32), iv (1 : Int32), rv b2] [(.ref b2), (.int (5 : Int32)), (.ref t)])) (fun _ k_ => XS.aload X2.here hx rfl (hb hby d28_16) rfl rfl  k_) ?_
  refine own_st (T' := T2) (g' := (mkF m 19 #[rv t, iv (5 : Int32), iv (6 : Int32), iv (1 : Int32), rv b2] [(.int (0 : Int32)), (.ref b2), (.int (5 : Int32)), (.ref t)])) (fun _ k_ => XS.iconst X2.here hx rfl (hb hby d28_18) k_) ?_
  refine own_st (T' := T2) (g' := (mkF m 20 #[rv t, iv (5 : Int32), iv (6 : Int32), iv (1 : Int32), rv b2] [(.ref t), (.int (0 : Int32)), (.ref b2), (.int (5 : Int32)), (.ref t)])) (fun _ k_ => XS.aloadN X2.here hx rfl (hb hby d28_19) rfl rfl  k_) ?_
  have f4 : Arv Z h2 t kt .byte (6 : Int32) [(.int (x0.toInt8.toInt32)), (.int (x1.toInt8.toInt32)), (.int (x2.toInt8.toInt32)), (.int (x3.toInt8.toInt32)), (.int (x4.toInt8.toInt32)), (.int (x5.toInt8.toInt32))] (.int (0 : Int32)) := A_x.ext E2
  obtain ⟨cl3, Ar3, -, S3, N3, -, -⟩ := id f4
  refine own_st (T' := T2) (g' := (mkF m 21 #[rv t, iv (5 : Int32), iv (6 : Int32), iv (1 : Int32), rv b2] [(.int (6 : Int32)), (.int (0 : Int32)), (.ref b2), (.int (5 : Int32)), (.ref t)])) (fun t_ k_ => X2.arraylength hx (by rw [e2]; exact Ar3.1) (State.isArrayOf_alike hZ.alike Ar3.2.1) (g := (mkF m 20 #[rv t, iv (5 : Int32), iv (6 : Int32), iv (1 : Int32), rv b2] [(.ref t), (.int (0 : Int32)), (.ref b2), (.int (5 : Int32)), (.ref t)])) rfl rfl (hb hby d28_20) _ (by rw [len_of S3 N3]; exact k_)) ?_
  refine own_st (T' := T2) (g' := (mkF m 22 #[rv t, iv (5 : Int32), iv (6 : Int32), iv (1 : Int32), rv b2] [(.int (5 : Int32)), (.int (6 : Int32)), (.int (0 : Int32)), (.ref b2), (.int (5 : Int32)), (.ref t)])) (fun _ k_ => XS.iloadN X2.here hx rfl (hb hby d28_21) rfl  k_) ?_
  refine own_st (T' := T2) (g' := (mkF m 23 #[rv t, iv (5 : Int32), iv (6 : Int32), iv (1 : Int32), rv b2] [(.int (1 : Int32)), (.int (0 : Int32)), (.ref b2), (.int (5 : Int32)), (.ref t)])) (fun _ k_ => XS.isub X2.here hx rfl (hb hby d28_22) rfl k_) ?_
  refine own_st (T' := T2) (g' := (mkF m 24 #[rv t, iv (5 : Int32), iv (6 : Int32), iv (1 : Int32), rv b2] [(.int (1 : Int32)), (.int (1 : Int32)), (.int (0 : Int32)), (.ref b2), (.int (5 : Int32)), (.ref t)])) (fun _ k_ => XS.iloadN X2.here hx rfl (hb hby d28_23) rfl  k_) ?_
  have f5 : Old Z n0 h2 := O0.ext E2
  obtain ⟨_, T6, L6, X6, hQ6, st6⟩ := own_callS X2 hx (y := own_m8) hown (mvT hZ (hw _ (List.mem_of_getElem? (i := 129) rfl))) (mvT hZ (hw _ (List.mem_of_getElem? (i := 92) rfl))) (mvT hZ (hw _ (List.mem_of_getElem? (i := 93) rfl))) (mvT hZ (hw _ (List.mem_of_getElem? (i := 94) rfl))) (by decide) (backOf (W := 4) (rm_min l Z a0 hw [] (1 : Int32) (1 : Int32) h2 n0 f5 (by decide)) hZ (hw _ (List.mem_of_getElem? (i := 94) rfl)) (hw _ (List.mem_of_getElem? (i := 93) rfl)) (by decide) (by decide)) (g := (mkF m 24 #[rv t, iv (5 : Int32), iv (6 : Int32), iv (1 : Int32), rv b2] [(.int (1 : Int32)), (.int (1 : Int32)), (.int (0 : Int32)), (.ref b2), (.int (5 : Int32)), (.ref t)])) rfl (by rw [hml]; rfl) (argsL := [(.int (1 : Int32)), (.int (1 : Int32))]) (rest := [(.int (0 : Int32)), (.ref b2), (.int (5 : Int32)), (.ref t)]) (lenOf pd__II_I rfl) rfl (by show 2 * 0 + _ ≤ _; exact Nat.le_of_eq rfl) (hb hby d28_24) rfl e2 (by decide) (by decide) (c' := 1) (s' := 1) rfl rfl
  obtain ⟨rfl, Nq6, eq6⟩ := hQ6
  have N6 := Fr.app N1 Nq6
  refine own_st (T' := T6) (g' := (mkF m 27 #[rv t, iv (5 : Int32), iv (6 : Int32), iv (1 : Int32), rv b2] [(.int (1 : Int32)), (.int (0 : Int32)), (.ref b2), (.int (5 : Int32)), (.ref t)])) st6 ?_
  clear st6
  obtain ⟨T7, h7, L7, X7, e7, N7, K7, Va7, st7⟩ := cpA X6 hx hZ hown (hw _ (List.mem_of_getElem? (i := 130) rfl)) (hw _ (List.mem_of_getElem? (i := 133) rfl)) (hw _ (List.mem_of_getElem? (i := 131) rfl)) (hw _ (List.mem_of_getElem? (i := 132) rfl)) eq6 f4 V2 (sp := (5 : Int32)) (dp := (0 : Int32)) (nn := (1 : Int32)) (Or.inl ⟨rfl, rfl⟩) (by decide) (by decide) (by decide) (by decide) (by decide) (us := [(.int (x5.toInt8.toInt32))]) rfl (Nat.le_of_ble_eq_true rfl) N6 fr2 (g := (mkF m 27 #[rv t, iv (5 : Int32), iv (6 : Int32), iv (1 : Int32), rv b2] [(.int (1 : Int32)), (.int (0 : Int32)), (.ref b2), (.int (5 : Int32)), (.ref t)])) rfl (by rw [hml]; rfl) (rest := []) rfl (hb hby d28_27) (by decide) (W := 0) (by show 2 * 0 + _ ≤ _; exact Nat.le_of_eq rfl) (by decide)
  have V7 : Arv Z h7 b2 k2 .byte (1 : Int32) [(.int (x5.toInt8.toInt32))] (.int (0 : Int32)) := Va7
  refine own_st (T' := T7) (g' := (mkF m 30 #[rv t, iv (5 : Int32), iv (6 : Int32), iv (1 : Int32), rv b2] [])) st7 ?_
  clear st7
  refine own_st (T' := T7) (g' := (mkF m 32 #[rv t, iv (5 : Int32), iv (6 : Int32), iv (1 : Int32), rv b2] [(.ref b2)])) (fun _ k_ => XS.aload X7.here hx rfl (hb hby d28_30) rfl rfl  k_) ?_
  have f8 : Keep h0 h2 [] := (Keep.refl h0 []).ext E2
  have f9 : Keep h0 h7 [] := f8.trans K7 (allS (Or.inr sz2) all0)
  exact own_retA X7 hx hret rfl rfl hlk (hb hby d28_32) (by decide) (by decide) (by rw [e7]; exact ⟨b2, k2, rfl, N7, f9, V7, sz2⟩)
theorem ef_cra_4 (m : MethodId) (x0 : Addr) (x1 : Int32) (x2 : Int32) : entryFrame m #[(.ref x0), (.int x1), (.int x2)] 3 = mkF m 0 #[rv x0, iv x1, iv x2] [] := by first | (simp [entryFrame, mkF, argsToLocals, Value.category]; done) | rfl
def Q_cra_4 (Z : State) (t : Addr) (kt : ClassId) (x0 : Int32) (x1 : Int32) (x2 : Int32) (x3 : Int32) (x4 : Int32) (x5 : Int32) (h0 : Heap) (n0 : Nat) (v : Option Value) (h : Heap) (L : List Loc) : Prop := ∃ (u : Addr) (ku : ClassId), (v = some (.ref u)) ∧ (Fr n0 L) ∧ (Keep h0 h []) ∧ (Arv Z h u ku .byte (1 : Int32) [(.int (x5.toInt8.toInt32))] (.int (0 : Int32))) ∧ (h0.size ≤ u)
set_option maxRecDepth 65536 in
set_option maxHeartbeats 40000000 in
theorem rm_cra_4 (l : Launch) (Z : State) (a0 : Array Value) (hw : ∀ d ∈ tables_1, d.before a0 Z = true) (ws : List Jvm.Cond) (t : Addr) (kt : ClassId) (x0 : Int32) (x1 : Int32) (x2 : Int32) (x3 : Int32) (x4 : Int32) (x5 : Int32) (h0 : Heap) (n0 : Nat) (O0 : Old Z n0 h0) (A_x : Arv Z h0 t kt .byte (6 : Int32) [(.int (x0.toInt8.toInt32)), (.int (x1.toInt8.toInt32)), (.int (x2.toInt8.toInt32)), (.int (x3.toInt8.toInt32)), (.int (x4.toInt8.toInt32)), (.int (x5.toInt8.toInt32))] (.int (0 : Int32))) :
    MetFree l own_m23 (head1 (Jvm.Cond.code own_m23 jdk_65_method_132_code 3 (some (.array .byte)) :: ws) ({ frames := 2, cells := 1, slots := 1, locals := 56 } : Room)) (fun ar_ U => ar_ = #[(.ref t), (.int (5 : Int32)), (.int (6 : Int32))] ∧ Z.Warmed39 U.vm ∧ U.heap = h0) (fun _ _ _ _ _ => True) (fun _ U o U' => ∃ v L, o = .returned v ∧ Q_cra_4 Z t kt x0 x1 x2 x3 x4 x5 h0 n0 v U'.heap L ∧ FrameEnd U o U' L ({ frames := 2, cells := 1, slots := 1, locals := 56 } : Room).cells ({ frames := 2, cells := 1, slots := 1, locals := 56 } : Room).slots) := by
  refine MetFree.of_bodySF (plainFor_of_name pn_3) hisR ?_
  intro p e s m args below meth c s₁ Bd hml0 hP hK
  obtain ⟨rfl, hZ, hh⟩ := hP
  have hx := Bd.exec
  have hby := Bd.bytes
  have hml : c.maxLocals = 3 := hml0
  have hown : s.vm.findClass "java/util/Arrays" = some m.cls := findClass_of_methodNamed Bd.named
  have hnm := (name_of_methodNamed Bd.named Bd.method).1
  have X0 : Stand p l e ({ frames := 2, cells := 1, slots := 1, locals := 56 } : Room) s m #[(.ref t), (.int (5 : Int32)), (.int (6 : Int32))] below meth c s₁ [] 0 0 := Stand.of_body Bd
  have e0 : s₁.heap = h0 := by rw [← hh, Bd.state]; rfl
  have N0 := Fr.nil n0
  have hret := Bd.returns
  have hlk : meth.locks = false := Bd.notSynchronized
  show own_E p e below s ({ frames := 2, cells := 1, slots := 1, locals := 56 } : Room).cells ({ frames := 2, cells := 1, slots := 1, locals := 56 } : Room).slots (Q_cra_4 Z t kt x0 x1 x2 x3 x4 x5 h0 n0) s₁ (entryFrame m #[(.ref t), (.int (5 : Int32)), (.int (6 : Int32))] 3)
  rw [ef_cra_4 m t (5 : Int32) (6 : Int32)]
  refine own_st (T' := s₁) (g' := (mkF m 1 #[rv t, iv (5 : Int32), iv (6 : Int32)] [(.int (5 : Int32))])) (fun _ k_ => XS.iloadN X0.here hx rfl (hb hby d27_0) rfl  k_) ?_
  refine own_st (T' := s₁) (g' := (mkF m 10 #[rv t, iv (5 : Int32), iv (6 : Int32)] [])) (fun _ k_ => XS.ifYes X0.here hx rfl (pc0 := 1) (pc' := 10) rfl (hb hby d27_1) rfl ((if0 _ _).trans (feq (by decide : ¬ ((5 : Int32) = (0 : Int32)))).2) (by decide) (by decide) k_) ?_
  refine own_st (T' := s₁) (g' := (mkF m 11 #[rv t, iv (5 : Int32), iv (6 : Int32)] [(.ref t)])) (fun _ k_ => XS.aloadN X0.here hx rfl (hb hby d27_10) rfl rfl  k_) ?_
  refine own_st (T' := s₁) (g' := (mkF m 12 #[rv t, iv (5 : Int32), iv (6 : Int32)] [(.int (5 : Int32)), (.ref t)])) (fun _ k_ => XS.iloadN X0.here hx rfl (hb hby d27_11) rfl  k_) ?_
  refine own_st (T' := s₁) (g' := (mkF m 13 #[rv t, iv (5 : Int32), iv (6 : Int32)] [(.int (6 : Int32)), (.int (5 : Int32)), (.ref t)])) (fun _ k_ => XS.iloadN X0.here hx rfl (hb hby d27_12) rfl  k_) ?_
  obtain ⟨_, T1, L1, X1, hQ1, st1⟩ := own_callS X0 hx (y := own_m22) hown (mvT hZ (hw _ (List.mem_of_getElem? (i := 123) rfl))) (mvT hZ (hw _ (List.mem_of_getElem? (i := 124) rfl))) (mvT hZ (hw _ (List.mem_of_getElem? (i := 121) rfl))) (mvT hZ (hw _ (List.mem_of_getElem? (i := 125) rfl))) (by decide) (backOf (W := 0) (rm_crb_4 l Z a0 hw [] t kt x0 x1 x2 x3 x4 x5 h0 n0 O0 A_x) hZ (hw _ (List.mem_of_getElem? (i := 125) rfl)) (hw _ (List.mem_of_getElem? (i := 121) rfl)) (by decide) (by decide)) (g := (mkF m 13 #[rv t, iv (5 : Int32), iv (6 : Int32)] [(.int (6 : Int32)), (.int (5 : Int32)), (.ref t)])) rfl (by rw [hml]; rfl) (argsL := [(.ref t), (.int (5 : Int32)), (.int (6 : Int32))]) (rest := []) (lenOf pd___BII__B rfl) rfl (by show 2 * 0 + _ ≤ _; exact Nat.le_of_eq rfl) (hb hby d27_13) rfl e0 (by decide) (by decide) (c' := 1) (s' := 1) rfl rfl
  obtain ⟨u1, ku1, rfl, Nq1, K1, fq1_0, xq1_fresh_u⟩ := hQ1
  have N1 := Fr.app N0 Nq1
  refine own_st (T' := T1) (g' := (mkF m 16 #[rv t, iv (5 : Int32), iv (6 : Int32)] [(.ref u1)])) st1 ?_
  clear st1
  have f2 : Keep h0 T1.heap [] := (Keep.refl h0 []).trans K1 all0
  exact own_retA X1 hx hret rfl rfl hlk (hb hby d27_16) (by decide) (by decide) ⟨u1, ku1, rfl, N1, f2, fq1_0, (Nat.le_trans (Keep.refl h0 []).1 xq1_fresh_u)⟩
theorem ef_nws_4 (m : MethodId) (x0 : Addr) (x1 : Int32) (x2 : Int32) : entryFrame m #[(.ref x0), (.int x1), (.int x2)] 3 = mkF m 0 #[rv x0, iv x1, iv x2] [] := by first | (simp [entryFrame, mkF, argsToLocals, Value.category]; done) | rfl
def Q_nws_4 (Z : State) (t : Addr) (kt : ClassId) (x0 : Int32) (x1 : Int32) (x2 : Int32) (x3 : Int32) (x4 : Int32) (x5 : Int32) (h0 : Heap) (n0 : Nat) (v : Option Value) (h : Heap) (L : List Loc) : Prop := ∃ (b : Addr) (u : Addr) (ku : ClassId), (v = some (.ref b)) ∧ (Fr n0 L) ∧ (Keep h0 h []) ∧ (Exa Z h b "java/lang/String") ∧ (Fld Z h b "java/lang/String" "coder" "B" (.int (0 : Int32))) ∧ (Fld Z h b "java/lang/String" "value" "[B" (.ref u)) ∧ (Arv Z h u ku .byte (1 : Int32) [(.int (x5.toInt8.toInt32))] (.int (0 : Int32))) ∧ (h0.size ≤ b)
set_option maxRecDepth 65536 in
set_option maxHeartbeats 40000000 in
theorem rm_nws_4 (l : Launch) (Z : State) (a0 : Array Value) (hw : ∀ d ∈ tables_1, d.before a0 Z = true) (ws : List Jvm.Cond) (t : Addr) (kt : ClassId) (x0 : Int32) (x1 : Int32) (x2 : Int32) (x3 : Int32) (x4 : Int32) (x5 : Int32) (h0 : Heap) (n0 : Nat) (O0 : Old Z n0 h0) (A_x : Arv Z h0 t kt .byte (6 : Int32) [(.int (x0.toInt8.toInt32)), (.int (x1.toInt8.toInt32)), (.int (x2.toInt8.toInt32)), (.int (x3.toInt8.toInt32)), (.int (x4.toInt8.toInt32)), (.int (x5.toInt8.toInt32))] (.int (0 : Int32))) :
    MetFree l own_m24 (head1 (Jvm.Cond.code own_m24 jdk_43_method_47_code 3 (some (.object "java/lang/String")) :: ws) ({ frames := 3, cells := 2, slots := 5, locals := 72 } : Room)) (fun ar_ U => ar_ = #[(.ref t), (.int (5 : Int32)), (.int (1 : Int32))] ∧ Z.Warmed39 U.vm ∧ U.heap = h0) (fun _ _ _ _ _ => True) (fun _ U o U' => ∃ v L, o = .returned v ∧ Q_nws_4 Z t kt x0 x1 x2 x3 x4 x5 h0 n0 v U'.heap L ∧ FrameEnd U o U' L ({ frames := 3, cells := 2, slots := 5, locals := 72 } : Room).cells ({ frames := 3, cells := 2, slots := 5, locals := 72 } : Room).slots) := by
  refine MetFree.of_bodySF (plainFor_of_name pn_5) hisR ?_
  intro p e s m args below meth c s₁ Bd hml0 hP hK
  obtain ⟨rfl, hZ, hh⟩ := hP
  have hx := Bd.exec
  have hby := Bd.bytes
  have hml : c.maxLocals = 3 := hml0
  have hown : s.vm.findClass "java/lang/StringLatin1" = some m.cls := findClass_of_methodNamed Bd.named
  have hnm := (name_of_methodNamed Bd.named Bd.method).1
  have X0 : Stand p l e ({ frames := 3, cells := 2, slots := 5, locals := 72 } : Room) s m #[(.ref t), (.int (5 : Int32)), (.int (1 : Int32))] below meth c s₁ [] 0 0 := Stand.of_body Bd
  have e0 : s₁.heap = h0 := by rw [← hh, Bd.state]; rfl
  have N0 := Fr.nil n0
  have hret := Bd.returns
  have hlk : meth.locks = false := Bd.notSynchronized
  show own_E p e below s ({ frames := 3, cells := 2, slots := 5, locals := 72 } : Room).cells ({ frames := 3, cells := 2, slots := 5, locals := 72 } : Room).slots (Q_nws_4 Z t kt x0 x1 x2 x3 x4 x5 h0 n0) s₁ (entryFrame m #[(.ref t), (.int (5 : Int32)), (.int (1 : Int32))] 3)
  rw [ef_nws_4 m t (5 : Int32) (1 : Int32)]
  refine own_st (T' := s₁) (g' := (mkF m 1 #[rv t, iv (5 : Int32), iv (1 : Int32)] [(.int (1 : Int32))])) (fun _ k_ => XS.iloadN X0.here hx rfl (hb hby d26_0) rfl  k_) ?_
  refine own_st (T' := s₁) (g' := (mkF m 7 #[rv t, iv (5 : Int32), iv (1 : Int32)] [])) (fun _ k_ => XS.ifYes X0.here hx rfl (pc0 := 1) (pc' := 7) rfl (hb hby d26_1) rfl ((if0 _ _).trans (feq (by decide : ¬ ((1 : Int32) = (0 : Int32)))).2) (by decide) (by decide) k_) ?_
  obtain ⟨T1, h1, X1, e1, E1, A1, D1, -, st1⟩ := newO X0 hx hZ hown (hw _ (List.mem_of_getElem? (i := 118) rfl)) (hw _ (List.mem_of_getElem? (i := 7) rfl)) (hw _ (List.mem_of_getElem? (i := 6) rfl)) e0 (g := (mkF m 7 #[rv t, iv (5 : Int32), iv (1 : Int32)] [])) rfl (hb hby d26_7) (by decide) (by decide)
  obtain ⟨b1, g1⟩ : ∃ z, z = h0.size := ⟨_, rfl⟩
  rw [← g1] at A1 D1 st1
  have fr1 : n0 ≤ b1 := Nat.le_trans (own_z O0) (Nat.le_of_eq g1.symm)
  have sz1 : h0.size ≤ b1 := Nat.le_trans (Keep.refl h0 []).1 (Nat.le_of_eq g1.symm)
  have F1_value : Fld Z h1 b1 "java/lang/String" "value" "[B" .null := D1 (Or.inr (hw _ (List.mem_of_getElem? (i := 9) rfl))) (ty := (.array .byte)) (by decide)
  have F1_coder : Fld Z h1 b1 "java/lang/String" "coder" "B" (.int (0 : Int32)) := D1 (Or.inr (hw _ (List.mem_of_getElem? (i := 10) rfl))) (ty := .byte) (by decide)
  refine own_st (T' := T1) (g' := (mkF m 10 #[rv t, iv (5 : Int32), iv (1 : Int32)] [(.ref b1)])) st1 ?_
  clear st1
  refine own_st (T' := T1) (g' := (mkF m 11 #[rv t, iv (5 : Int32), iv (1 : Int32)] [(.ref b1), (.ref b1)])) (fun _ k_ => XS.dup X1.here hx rfl (hb hby d26_10) rfl rfl k_) ?_
  refine own_st (T' := T1) (g' := (mkF m 12 #[rv t, iv (5 : Int32), iv (1 : Int32)] [(.ref t), (.ref b1), (.ref b1)])) (fun _ k_ => XS.aloadN X1.here hx rfl (hb hby d26_11) rfl rfl  k_) ?_
  refine own_st (T' := T1) (g' := (mkF m 13 #[rv t, iv (5 : Int32), iv (1 : Int32)] [(.int (5 : Int32)), (.ref t), (.ref b1), (.ref b1)])) (fun _ k_ => XS.iloadN X1.here hx rfl (hb hby d26_12) rfl  k_) ?_
  refine own_st (T' := T1) (g' := (mkF m 14 #[rv t, iv (5 : Int32), iv (1 : Int32)] [(.int (5 : Int32)), (.int (5 : Int32)), (.ref t), (.ref b1), (.ref b1)])) (fun _ k_ => XS.iloadN X1.here hx rfl (hb hby d26_13) rfl  k_) ?_
  refine own_st (T' := T1) (g' := (mkF m 15 #[rv t, iv (5 : Int32), iv (1 : Int32)] [(.int (1 : Int32)), (.int (5 : Int32)), (.int (5 : Int32)), (.ref t), (.ref b1), (.ref b1)])) (fun _ k_ => XS.iloadN X1.here hx rfl (hb hby d26_14) rfl  k_) ?_
  refine own_st (T' := T1) (g' := (mkF m 16 #[rv t, iv (5 : Int32), iv (1 : Int32)] [(.int (6 : Int32)), (.int (5 : Int32)), (.ref t), (.ref b1), (.ref b1)])) (fun _ k_ => XS.iadd X1.here hx rfl (hb hby d26_15) rfl k_) ?_
  have f2 : Arv Z h1 t kt .byte (6 : Int32) [(.int (x0.toInt8.toInt32)), (.int (x1.toInt8.toInt32)), (.int (x2.toInt8.toInt32)), (.int (x3.toInt8.toInt32)), (.int (x4.toInt8.toInt32)), (.int (x5.toInt8.toInt32))] (.int (0 : Int32)) := A_x.ext E1
  have f3 : Old Z n0 h1 := O0.ext E1
  have f4 : Keep h0 h1 [] := (Keep.refl h0 []).ext E1
  obtain ⟨_, T5, L5, X5, hQ5, st5⟩ := own_callS X1 hx (y := own_m23) hown (mvT hZ (hw _ (List.mem_of_getElem? (i := 119) rfl))) (mvT hZ (hw _ (List.mem_of_getElem? (i := 120) rfl))) (mvT hZ (hw _ (List.mem_of_getElem? (i := 121) rfl))) (mvT hZ (hw _ (List.mem_of_getElem? (i := 122) rfl))) (by decide) (backOf (W := 2) (rm_cra_4 l Z a0 hw [] t kt x0 x1 x2 x3 x4 x5 h1 n0 f3 f2) hZ (hw _ (List.mem_of_getElem? (i := 122) rfl)) (hw _ (List.mem_of_getElem? (i := 121) rfl)) (by decide) (by decide)) (g := (mkF m 16 #[rv t, iv (5 : Int32), iv (1 : Int32)] [(.int (6 : Int32)), (.int (5 : Int32)), (.ref t), (.ref b1), (.ref b1)])) rfl (by rw [hml]; rfl) (argsL := [(.ref t), (.int (5 : Int32)), (.int (6 : Int32))]) (rest := [(.ref b1), (.ref b1)]) (lenOf pd___BII__B rfl) rfl (by show 2 * 0 + _ ≤ _; exact Nat.le_of_eq rfl) (hb hby d26_16) rfl e1 (by decide) (by decide) (c' := 2) (s' := 5) rfl rfl
  obtain ⟨u5, ku5, rfl, Nq5, K5, fq5_0, xq5_fresh_u⟩ := hQ5
  have N5 := Fr.app N0 Nq5
  refine own_st (T' := T5) (g' := (mkF m 19 #[rv t, iv (5 : Int32), iv (1 : Int32)] [(.ref u5), (.ref b1), (.ref b1)])) st5 ?_
  clear st5
  refine own_st (T' := T5) (g' := (mkF m 20 #[rv t, iv (5 : Int32), iv (1 : Int32)] [(.int (0 : Int32)), (.ref u5), (.ref b1), (.ref b1)])) (fun _ k_ => XS.iconst X5.here hx rfl (hb hby d26_19) k_) ?_
  have f6 : Exa Z T5.heap b1 "java/lang/String" := A1.keep K5
  have f7 : Fld Z T5.heap b1 "java/lang/String" "value" "[B" .null := F1_value.keep K5 nin0
  have f8 : Fld Z T5.heap b1 "java/lang/String" "coder" "B" (.int (0 : Int32)) := F1_coder.keep K5 nin0
  have f9 : Old Z n0 T5.heap := f3.keep K5 all0
  obtain ⟨_, T10, L10, X10, hQ10, st10⟩ := own_callI X5 hx (y := own_m12) rfl hown (mvT hZ (hw _ (List.mem_of_getElem? (i := 134) rfl))) (mvT hZ (hw _ (List.mem_of_getElem? (i := 135) rfl))) (mvT hZ (hw _ (List.mem_of_getElem? (i := 136) rfl))) (by decide) (backOf (W := 1) (rm_inbb l Z a0 hw [] b1 u5 T5.heap n0 f9 f6 f7 f8 fr1) hZ (hw _ (List.mem_of_getElem? (i := 136) rfl)) (hw _ (List.mem_of_getElem? (i := 6) rfl)) (by decide) (by decide)) (g := (mkF m 20 #[rv t, iv (5 : Int32), iv (1 : Int32)] [(.int (0 : Int32)), (.ref u5), (.ref b1), (.ref b1)])) rfl (by rw [hml]; rfl) (a := b1) (argsL := [(.ref u5), (.int (0 : Int32))]) (rest := [(.ref b1)]) (lenOf pd___BB_V rfl) rfl (by show 2 * 0 + _ ≤ _; exact Nat.le_of_eq rfl) (hb hby d26_20) rfl rfl (by decide) (by decide) (c' := 2) (s' := 5) rfl rfl
  obtain ⟨rfl, Nq10, K10, fq10_0, fq10_1, fq10_2⟩ := hQ10
  have N10 := Fr.app N5 Nq10
  refine own_st (T' := T10) (g' := (mkF m 23 #[rv t, iv (5 : Int32), iv (1 : Int32)] [(.ref b1)])) st10 ?_
  clear st10
  have f11 : Keep h0 T5.heap [] := f4.trans K5 all0
  have f12 : Keep h0 T10.heap [] := f11.trans K10 (allS (Or.inr sz1) all0)
  have ne13 : b1 ≠ u5 := Nat.ne_of_lt (Nat.lt_of_lt_of_le A1.lt xq5_fresh_u)
  have f14 : Arv Z T10.heap u5 ku5 .byte (1 : Int32) [(.int (x5.toInt8.toInt32))] (.int (0 : Int32)) := fq5_0.keep K10 (ninS (Ne.symm ne13) nin0)
  exact own_retA X10 hx hret rfl rfl hlk (hb hby d26_23) (by decide) (by decide) ⟨b1, u5, ku5, rfl, N10, f12, fq10_0, fq10_1, fq10_2, f14, sz1⟩
theorem ef_sub_4 (m : MethodId) (x0 : Addr) (x1 : Int32) (x2 : Int32) : entryFrame m #[(.ref x0), (.int x1), (.int x2)] 5 = mkF m 0 #[rv x0, iv x1, iv x2, .unset, .unset] [] := by first | (simp [entryFrame, mkF, argsToLocals, Value.category]; done) | rfl
def Q_sub_4 (Z : State) (x : Addr) (t : Addr) (kt : ClassId) (x0 : Int32) (x1 : Int32) (x2 : Int32) (x3 : Int32) (x4 : Int32) (x5 : Int32) (cz : Int32) (fm : Value) (h0 : Heap) (n0 : Nat) (v : Option Value) (h : Heap) (L : List Loc) : Prop := ∃ (b : Addr) (u : Addr) (ku : ClassId), (v = some (.ref b)) ∧ (Fr n0 L) ∧ (Keep h0 h []) ∧ (Exa Z h b "java/lang/String") ∧ (Fld Z h b "java/lang/String" "coder" "B" (.int (0 : Int32))) ∧ (Fld Z h b "java/lang/String" "value" "[B" (.ref u)) ∧ (Arv Z h u ku .byte (1 : Int32) [(.int (x5.toInt8.toInt32))] (.int (0 : Int32))) ∧ (h0.size ≤ b)
set_option maxRecDepth 65536 in
set_option maxHeartbeats 40000000 in
theorem rm_sub_4 (l : Launch) (Z : State) (a0 : Array Value) (hw : ∀ d ∈ tables_1, d.before a0 Z = true) (ws : List Jvm.Cond) (x : Addr) (t : Addr) (kt : ClassId) (x0 : Int32) (x1 : Int32) (x2 : Int32) (x3 : Int32) (x4 : Int32) (x5 : Int32) (cz : Int32) (fm : Value) (h0 : Heap) (n0 : Nat) (O0 : Old Z n0 h0) (E_x : Exa Z h0 x "java/lang/String") (V_x : Fld Z h0 x "java/lang/String" "value" "[B" (.ref t)) (C_x : Fld Z h0 x "java/lang/String" "coder" "B" (.int (0 : Int32))) (A_x : Arv Z h0 t kt .byte (6 : Int32) [(.int (x0.toInt8.toInt32)), (.int (x1.toInt8.toInt32)), (.int (x2.toInt8.toInt32)), (.int (x3.toInt8.toInt32)), (.int (x4.toInt8.toInt32)), (.int (x5.toInt8.toInt32))] (.int (0 : Int32))) (SC : Sta Z Z.heap "java/lang/String" "COMPACT_STRINGS" "Z" (.int cz)) (hcz : ¬ cz = (0 : Int32)) (SF : Sta Z Z.heap "jdk/internal/util/Preconditions" "SIOOBE_FORMATTER" "Ljava/util/function/BiFunction;" fm) (hfm : fm.isRef = true) :
    MetFree l own_m19 (head1 (Jvm.Cond.code own_m19 jdk_42_method_92_code 5 (some (.object "java/lang/String")) :: ws) ({ frames := 4, cells := 2, slots := 5, locals := 86 } : Room)) (fun ar_ U => ar_ = #[(.ref x), (.int (5 : Int32)), (.int (6 : Int32))] ∧ Z.Warmed39 U.vm ∧ U.heap = h0) (fun _ _ _ _ _ => True) (fun _ U o U' => ∃ v L, o = .returned v ∧ Q_sub_4 Z x t kt x0 x1 x2 x3 x4 x5 cz fm h0 n0 v U'.heap L ∧ FrameEnd U o U' L ({ frames := 4, cells := 2, slots := 5, locals := 86 } : Room).cells ({ frames := 4, cells := 2, slots := 5, locals := 86 } : Room).slots) := by
  refine MetFree.of_bodySF (plainFor_of_name pn_1) hisR ?_
  intro p e s m args below meth c s₁ Bd hml0 hP hK
  obtain ⟨rfl, hZ, hh⟩ := hP
  have hx := Bd.exec
  have hby := Bd.bytes
  have hml : c.maxLocals = 5 := hml0
  have hown : s.vm.findClass "java/lang/String" = some m.cls := findClass_of_methodNamed Bd.named
  have hnm := (name_of_methodNamed Bd.named Bd.method).1
  have X0 : Stand p l e ({ frames := 4, cells := 2, slots := 5, locals := 86 } : Room) s m #[(.ref x), (.int (5 : Int32)), (.int (6 : Int32))] below meth c s₁ [] 0 0 := Stand.of_body Bd
  have e0 : s₁.heap = h0 := by rw [← hh, Bd.state]; rfl
  have N0 := Fr.nil n0
  have hret := Bd.returns
  have hlk : meth.locks = false := Bd.notSynchronized
  show own_E p e below s ({ frames := 4, cells := 2, slots := 5, locals := 86 } : Room).cells ({ frames := 4, cells := 2, slots := 5, locals := 86 } : Room).slots (Q_sub_4 Z x t kt x0 x1 x2 x3 x4 x5 cz fm h0 n0) s₁ (entryFrame m #[(.ref x), (.int (5 : Int32)), (.int (6 : Int32))] 5)
  rw [ef_sub_4 m x (5 : Int32) (6 : Int32)]
  refine own_st (T' := s₁) (g' := (mkF m 1 #[rv x, iv (5 : Int32), iv (6 : Int32), .unset, .unset] [(.ref x)])) (fun _ k_ => XS.aloadN X0.here hx rfl (hb hby d22_0) rfl rfl  k_) ?_
  obtain ⟨cq1, kq1, q1a, q1b, q1c⟩ := isOf hZ e0 E_x
  obtain ⟨_, T1, L1, X1, hQ1, st1⟩ := own_callV X0 hx (y := own_m6) (z := own_m6) hown (mvT hZ (hw _ (List.mem_of_getElem? (i := 70) rfl))) (mvT hZ (hw _ (List.mem_of_getElem? (i := 71) rfl))) (notFace_of_selects (args := #[]) (mvT hZ (hw _ (List.mem_of_getElem? (i := 73) rfl)))) (mvT hZ (hw _ (List.mem_of_getElem? (i := 73) rfl))) (mvT hZ (hw _ (List.mem_of_getElem? (i := 72) rfl))) (by decide) (backOf (W := 0) (rm_len l Z a0 hw [] x t kt (6 : Int32) [(.int (x0.toInt8.toInt32)), (.int (x1.toInt8.toInt32)), (.int (x2.toInt8.toInt32)), (.int (x3.toInt8.toInt32)), (.int (x4.toInt8.toInt32)), (.int (x5.toInt8.toInt32))] cz h0 n0 O0 E_x V_x C_x A_x SC hcz) hZ (hw _ (List.mem_of_getElem? (i := 74) rfl)) (hw _ (List.mem_of_getElem? (i := 6) rfl)) (by decide) (by decide)) q1a q1c (g := (mkF m 1 #[rv x, iv (5 : Int32), iv (6 : Int32), .unset, .unset] [(.ref x)])) rfl (by rw [hml]; rfl) (argsL := []) (rest := []) (lenOf pd___I rfl) rfl (by show 2 * 0 + _ ≤ _; exact Nat.le_of_eq rfl) (hb hby d22_1) rfl e0 (by decide) (by decide) (c' := 0) (s' := 0) rfl rfl
  clear q1a q1b q1c kq1 cq1
  obtain ⟨rfl, Nq1, eq1⟩ := hQ1
  have N1 := Fr.app N0 Nq1
  refine own_st (T' := T1) (g' := (mkF m 4 #[rv x, iv (5 : Int32), iv (6 : Int32), .unset, .unset] [(.int (6 : Int32))])) st1 ?_
  clear st1
  refine own_st (T' := T1) (g' := (mkF m 5 #[rv x, iv (5 : Int32), iv (6 : Int32), iv (6 : Int32), .unset] [])) (fun _ k_ => XS.istoreN X1.here hx rfl (hb hby d22_4) rfl (l' := #[rv x, iv (5 : Int32), iv (6 : Int32), iv (6 : Int32), .unset]) rfl k_) ?_
  refine own_st (T' := T1) (g' := (mkF m 6 #[rv x, iv (5 : Int32), iv (6 : Int32), iv (6 : Int32), .unset] [(.int (5 : Int32))])) (fun _ k_ => XS.iloadN X1.here hx rfl (hb hby d22_5) rfl  k_) ?_
  refine own_st (T' := T1) (g' := (mkF m 7 #[rv x, iv (5 : Int32), iv (6 : Int32), iv (6 : Int32), .unset] [(.int (6 : Int32)), (.int (5 : Int32))])) (fun _ k_ => XS.iloadN X1.here hx rfl (hb hby d22_6) rfl  k_) ?_
  refine own_st (T' := T1) (g' := (mkF m 8 #[rv x, iv (5 : Int32), iv (6 : Int32), iv (6 : Int32), .unset] [(.int (6 : Int32)), (.int (6 : Int32)), (.int (5 : Int32))])) (fun _ k_ => XS.iloadN X1.here hx rfl (hb hby d22_7) rfl  k_) ?_
  obtain ⟨_, T2, L2, X2, hQ2, st2⟩ := own_callS X1 hx (y := own_m10) hown (mvT hZ (hw _ (List.mem_of_getElem? (i := 105) rfl))) (mvT hZ (hw _ (List.mem_of_getElem? (i := 106) rfl))) (mvT hZ (hw _ (List.mem_of_getElem? (i := 6) rfl))) (mvT hZ (hw _ (List.mem_of_getElem? (i := 107) rfl))) (by decide) (backOf (W := 0) (rm_cbe l Z a0 hw [] (5 : Int32) (6 : Int32) (6 : Int32) fm h0 n0 O0 (by decide) (by decide) (by decide) SF hfm) hZ (hw _ (List.mem_of_getElem? (i := 107) rfl)) (hw _ (List.mem_of_getElem? (i := 6) rfl)) (by decide) (by decide)) (g := (mkF m 8 #[rv x, iv (5 : Int32), iv (6 : Int32), iv (6 : Int32), .unset] [(.int (6 : Int32)), (.int (6 : Int32)), (.int (5 : Int32))])) rfl (by rw [hml]; rfl) (argsL := [(.int (5 : Int32)), (.int (6 : Int32)), (.int (6 : Int32))]) (rest := []) (lenOf pd__III_V rfl) rfl (by show 2 * 0 + _ ≤ _; exact Nat.le_of_eq rfl) (hb hby d22_8) rfl eq1 (by decide) (by decide) (c' := 0) (s' := 0) rfl rfl
  obtain ⟨rfl, Nq2, eq2⟩ := hQ2
  have N2 := Fr.app N1 Nq2
  refine own_st (T' := T2) (g' := (mkF m 11 #[rv x, iv (5 : Int32), iv (6 : Int32), iv (6 : Int32), .unset] [])) st2 ?_
  clear st2
  refine own_st (T' := T2) (g' := (mkF m 12 #[rv x, iv (5 : Int32), iv (6 : Int32), iv (6 : Int32), .unset] [(.int (5 : Int32))])) (fun _ k_ => XS.iloadN X2.here hx rfl (hb hby d22_11) rfl  k_) ?_
  refine own_st (T' := T2) (g' := (mkF m 22 #[rv x, iv (5 : Int32), iv (6 : Int32), iv (6 : Int32), .unset] [])) (fun _ k_ => XS.ifYes X2.here hx rfl (pc0 := 12) (pc' := 22) rfl (hb hby d22_12) rfl ((if0 _ _).trans (feq (by decide : ¬ ((5 : Int32) = (0 : Int32)))).2) (by decide) (by decide) k_) ?_
  refine own_st (T' := T2) (g' := (mkF m 23 #[rv x, iv (5 : Int32), iv (6 : Int32), iv (6 : Int32), .unset] [(.int (6 : Int32))])) (fun _ k_ => XS.iloadN X2.here hx rfl (hb hby d22_22) rfl  k_) ?_
  refine own_st (T' := T2) (g' := (mkF m 24 #[rv x, iv (5 : Int32), iv (6 : Int32), iv (6 : Int32), .unset] [(.int (5 : Int32)), (.int (6 : Int32))])) (fun _ k_ => XS.iloadN X2.here hx rfl (hb hby d22_23) rfl  k_) ?_
  refine own_st (T' := T2) (g' := (mkF m 25 #[rv x, iv (5 : Int32), iv (6 : Int32), iv (6 : Int32), .unset] [(.int (1 : Int32))])) (fun _ k_ => XS.isub X2.here hx rfl (hb hby d22_24) rfl k_) ?_
  refine own_st (T' := T2) (g' := (mkF m 27 #[rv x, iv (5 : Int32), iv (6 : Int32), iv (6 : Int32), iv (1 : Int32)] [])) (fun _ k_ => XS.istore X2.here hx rfl (hb hby d22_25) rfl (l' := #[rv x, iv (5 : Int32), iv (6 : Int32), iv (6 : Int32), iv (1 : Int32)]) rfl k_) ?_
  refine own_st (T' := T2) (g' := (mkF m 28 #[rv x, iv (5 : Int32), iv (6 : Int32), iv (6 : Int32), iv (1 : Int32)] [(.ref x)])) (fun _ k_ => XS.aloadN X2.here hx rfl (hb hby d22_27) rfl rfl  k_) ?_
  obtain ⟨cq3, kq3, q3a, q3b, q3c⟩ := isOf hZ eq2 E_x
  obtain ⟨_, T3, L3, X3, hQ3, st3⟩ := own_callV X2 hx (y := own_m7) (z := own_m7) hown (mvT hZ (hw _ (List.mem_of_getElem? (i := 20) rfl))) (mvT hZ (hw _ (List.mem_of_getElem? (i := 21) rfl))) (notFace_of_selects (args := #[]) (mvT hZ (hw _ (List.mem_of_getElem? (i := 23) rfl)))) (mvT hZ (hw _ (List.mem_of_getElem? (i := 23) rfl))) (mvT hZ (hw _ (List.mem_of_getElem? (i := 22) rfl))) (by decide) (backOf (W := 0) (rm_isl1 l Z a0 hw [] x cz h0 n0 O0 E_x C_x SC hcz) hZ (hw _ (List.mem_of_getElem? (i := 24) rfl)) (hw _ (List.mem_of_getElem? (i := 6) rfl)) (by decide) (by decide)) q3a q3c (g := (mkF m 28 #[rv x, iv (5 : Int32), iv (6 : Int32), iv (6 : Int32), iv (1 : Int32)] [(.ref x)])) rfl (by rw [hml]; rfl) (argsL := []) (rest := []) (lenOf pd___Z rfl) rfl (by show 2 * 0 + _ ≤ _; exact Nat.le_of_eq rfl) (hb hby d22_28) rfl eq2 (by decide) (by decide) (c' := 0) (s' := 0) rfl rfl
  clear q3a q3b q3c kq3 cq3
  obtain ⟨rfl, Nq3, eq3⟩ := hQ3
  have N3 := Fr.app N2 Nq3
  refine own_st (T' := T3) (g' := (mkF m 31 #[rv x, iv (5 : Int32), iv (6 : Int32), iv (6 : Int32), iv (1 : Int32)] [(.int (1 : Int32))])) st3 ?_
  clear st3
  refine own_st (T' := T3) (g' := (mkF m 34 #[rv x, iv (5 : Int32), iv (6 : Int32), iv (6 : Int32), iv (1 : Int32)] [])) (fun _ k_ => XS.ifNo X3.here hx rfl (hb hby d22_31) rfl ((if0 _ _).trans (feq (by decide : ¬ ((1 : Int32) = (0 : Int32)))).1) k_) ?_
  refine own_st (T' := T3) (g' := (mkF m 35 #[rv x, iv (5 : Int32), iv (6 : Int32), iv (6 : Int32), iv (1 : Int32)] [(.ref x)])) (fun _ k_ => XS.aloadN X3.here hx rfl (hb hby d22_34) rfl rfl  k_) ?_
  obtain ⟨T4, X4, e4, st4⟩ := getF X3 hx hZ hown (host := "") (Or.inl (hw _ (List.mem_of_getElem? (i := 27) rfl))) Via.refl eq3 V_x (g := (mkF m 35 #[rv x, iv (5 : Int32), iv (6 : Int32), iv (6 : Int32), iv (1 : Int32)] [(.ref x)])) rfl rfl (hb hby d22_35)
  refine own_st (T' := T4) (g' := (mkF m 38 #[rv x, iv (5 : Int32), iv (6 : Int32), iv (6 : Int32), iv (1 : Int32)] [(.ref t)])) st4 ?_
  clear st4
  refine own_st (T' := T4) (g' := (mkF m 39 #[rv x, iv (5 : Int32), iv (6 : Int32), iv (6 : Int32), iv (1 : Int32)] [(.int (5 : Int32)), (.ref t)])) (fun _ k_ => XS.iloadN X4.here hx rfl (hb hby d22_38) rfl  k_) ?_
  refine own_st (T' := T4) (g' := (mkF m 41 #[rv x, iv (5 : Int32), iv (6 : Int32), iv (6 : Int32), iv (1 : Int32)] [(.int (1 : Int32)), (.int (5 : Int32)), (.ref t)])) (fun _ k_ => XS.iload X4.here hx rfl (hb hby d22_39) rfl  k_) ?_
  obtain ⟨_, T5, L5, X5, hQ5, st5⟩ := own_callS X4 hx (y := own_m24) hown (mvT hZ (hw _ (List.mem_of_getElem? (i := 115) rfl))) (mvT hZ (hw _ (List.mem_of_getElem? (i := 116) rfl))) (mvT hZ (hw _ (List.mem_of_getElem? (i := 30) rfl))) (mvT hZ (hw _ (List.mem_of_getElem? (i := 117) rfl))) (by decide) (backOf (W := 0) (rm_nws_4 l Z a0 hw [] t kt x0 x1 x2 x3 x4 x5 h0 n0 O0 A_x) hZ (hw _ (List.mem_of_getElem? (i := 117) rfl)) (hw _ (List.mem_of_getElem? (i := 30) rfl)) (by decide) (by decide)) (g := (mkF m 41 #[rv x, iv (5 : Int32), iv (6 : Int32), iv (6 : Int32), iv (1 : Int32)] [(.int (1 : Int32)), (.int (5 : Int32)), (.ref t)])) rfl (by rw [hml]; rfl) (argsL := [(.ref t), (.int (5 : Int32)), (.int (1 : Int32))]) (rest := []) (lenOf pd___BII_Ljava_lang_String_ rfl) rfl (by show 2 * 0 + _ ≤ _; exact Nat.le_of_eq rfl) (hb hby d22_41) rfl e4 (by decide) (by decide) (c' := 2) (s' := 5) rfl rfl
  obtain ⟨b5, u5, ku5, rfl, Nq5, K5, fq5_0, fq5_1, fq5_2, fq5_3, xq5_fresh_b⟩ := hQ5
  have N5 := Fr.app N3 Nq5
  refine own_st (T' := T5) (g' := (mkF m 44 #[rv x, iv (5 : Int32), iv (6 : Int32), iv (6 : Int32), iv (1 : Int32)] [(.ref b5)])) st5 ?_
  clear st5
  refine own_st (T' := T5) (g' := (mkF m 57 #[rv x, iv (5 : Int32), iv (6 : Int32), iv (6 : Int32), iv (1 : Int32)] [(.ref b5)])) (fun _ k_ => XS.goto X5.here hx rfl (pc0 := 44) (pc' := 57) rfl (hb hby d22_44) (by decide) (by decide) k_) ?_
  have f6 : Keep h0 T5.heap [] := (Keep.refl h0 []).trans K5 all0
  exact own_retA X5 hx hret rfl rfl hlk (hb hby d22_57) (by decide) (by decide) ⟨b5, u5, ku5, rfl, N5, f6, fq5_0, fq5_1, fq5_2, fq5_3, (Nat.le_trans (Keep.refl h0 []).1 xq5_fresh_b)⟩
theorem ef_su1_4 (m : MethodId) (x0 : Addr) (x1 : Int32) : entryFrame m #[(.ref x0), (.int x1)] 2 = mkF m 0 #[rv x0, iv x1] [] := by first | (simp [entryFrame, mkF, argsToLocals, Value.category]; done) | rfl
def Q_su1_4 (Z : State) (x : Addr) (t : Addr) (kt : ClassId) (c0 : Int32) (c1 : Int32) (c2 : Int32) (c3 : Int32) (c5 : Int32) (cz : Int32) (fm : Value) (h0 : Heap) (n0 : Nat) (v : Option Value) (h : Heap) (L : List Loc) : Prop := ∃ (b : Addr) (u : Addr) (ku : ClassId), (v = some (.ref b)) ∧ (Fr n0 L) ∧ (Keep h0 h []) ∧ (Exa Z h b "java/lang/String") ∧ (Fld Z h b "java/lang/String" "coder" "B" (.int (0 : Int32))) ∧ (Fld Z h b "java/lang/String" "value" "[B" (.ref u)) ∧ (Arv Z h u ku .byte (1 : Int32) [(.int (c5.toInt8.toInt32))] (.int (0 : Int32))) ∧ (h0.size ≤ b)
set_option maxRecDepth 65536 in
set_option maxHeartbeats 40000000 in
theorem rm_su1_4 (l : Launch) (Z : State) (a0 : Array Value) (hw : ∀ d ∈ tables_1, d.before a0 Z = true) (ws : List Jvm.Cond) (x : Addr) (t : Addr) (kt : ClassId) (c0 : Int32) (c1 : Int32) (c2 : Int32) (c3 : Int32) (c5 : Int32) (cz : Int32) (fm : Value) (h0 : Heap) (n0 : Nat) (O0 : Old Z n0 h0) (E_x : Exa Z h0 x "java/lang/String") (V_x : Fld Z h0 x "java/lang/String" "value" "[B" (.ref t)) (C_x : Fld Z h0 x "java/lang/String" "coder" "B" (.int (0 : Int32))) (A_x : Arv Z h0 t kt .byte (6 : Int32) [(.int (c0.toInt8.toInt32)), (.int (c1.toInt8.toInt32)), (.int (c2.toInt8.toInt32)), (.int (c3.toInt8.toInt32)), (.int ((58 : Int32).toInt8.toInt32)), (.int (c5.toInt8.toInt32))] (.int (0 : Int32))) (SC : Sta Z Z.heap "java/lang/String" "COMPACT_STRINGS" "Z" (.int cz)) (hcz : ¬ cz = (0 : Int32)) (SF : Sta Z Z.heap "jdk/internal/util/Preconditions" "SIOOBE_FORMATTER" "Ljava/util/function/BiFunction;" fm) (hfm : fm.isRef = true) :
    MetFree l own_m20 (head1 (Jvm.Cond.code own_m20 jdk_42_method_91_code 2 (some (.object "java/lang/String")) :: ws) ({ frames := 5, cells := 2, slots := 5, locals := 102 } : Room)) (fun ar_ U => ar_ = #[(.ref x), (.int (5 : Int32))] ∧ Z.Warmed39 U.vm ∧ U.heap = h0) (fun _ _ _ _ _ => True) (fun _ U o U' => ∃ v L, o = .returned v ∧ Q_su1_4 Z x t kt c0 c1 c2 c3 c5 cz fm h0 n0 v U'.heap L ∧ FrameEnd U o U' L ({ frames := 5, cells := 2, slots := 5, locals := 102 } : Room).cells ({ frames := 5, cells := 2, slots := 5, locals := 102 } : Room).slots) := by
  refine MetFree.of_bodySF (plainFor_of_name pn_1) hisR ?_
  intro p e s m args below meth c s₁ Bd hml0 hP hK
  obtain ⟨rfl, hZ, hh⟩ := hP
  have hx := Bd.exec
  have hby := Bd.bytes
  have hml : c.maxLocals = 2 := hml0
  have hown : s.vm.findClass "java/lang/String" = some m.cls := findClass_of_methodNamed Bd.named
  have hnm := (name_of_methodNamed Bd.named Bd.method).1
  have X0 : Stand p l e ({ frames := 5, cells := 2, slots := 5, locals := 102 } : Room) s m #[(.ref x), (.int (5 : Int32))] below meth c s₁ [] 0 0 := Stand.of_body Bd
  have e0 : s₁.heap = h0 := by rw [← hh, Bd.state]; rfl
  have N0 := Fr.nil n0
  have hret := Bd.returns
  have hlk : meth.locks = false := Bd.notSynchronized
  show own_E p e below s ({ frames := 5, cells := 2, slots := 5, locals := 102 } : Room).cells ({ frames := 5, cells := 2, slots := 5, locals := 102 } : Room).slots (Q_su1_4 Z x t kt c0 c1 c2 c3 c5 cz fm h0 n0) s₁ (entryFrame m #[(.ref x), (.int (5 : Int32))] 2)
  rw [ef_su1_4 m x (5 : Int32)]
  refine own_st (T' := s₁) (g' := (mkF m 1 #[rv x, iv (5 : Int32)] [(.ref x)])) (fun _ k_ => XS.aloadN X0.here hx rfl (hb hby d21_0) rfl rfl  k_) ?_
  refine own_st (T' := s₁) (g' := (mkF m 2 #[rv x, iv (5 : Int32)] [(.int (5 : Int32)), (.ref x)])) (fun _ k_ => XS.iloadN X0.here hx rfl (hb hby d21_1) rfl  k_) ?_
  refine own_st (T' := s₁) (g' := (mkF m 3 #[rv x, iv (5 : Int32)] [(.ref x), (.int (5 : Int32)), (.ref x)])) (fun _ k_ => XS.aloadN X0.here hx rfl (hb hby d21_2) rfl rfl  k_) ?_
  obtain ⟨cq1, kq1, q1a, q1b, q1c⟩ := isOf hZ e0 E_x
  obtain ⟨_, T1, L1, X1, hQ1, st1⟩ := own_callV X0 hx (y := own_m6) (z := own_m6) hown (mvT hZ (hw _ (List.mem_of_getElem? (i := 70) rfl))) (mvT hZ (hw _ (List.mem_of_getElem? (i := 71) rfl))) (notFace_of_selects (args := #[]) (mvT hZ (hw _ (List.mem_of_getElem? (i := 73) rfl)))) (mvT hZ (hw _ (List.mem_of_getElem? (i := 73) rfl))) (mvT hZ (hw _ (List.mem_of_getElem? (i := 72) rfl))) (by decide) (backOf (W := 2) (rm_len l Z a0 hw [] x t kt (6 : Int32) [(.int (c0.toInt8.toInt32)), (.int (c1.toInt8.toInt32)), (.int (c2.toInt8.toInt32)), (.int (c3.toInt8.toInt32)), (.int ((58 : Int32).toInt8.toInt32)), (.int (c5.toInt8.toInt32))] cz h0 n0 O0 E_x V_x C_x A_x SC hcz) hZ (hw _ (List.mem_of_getElem? (i := 74) rfl)) (hw _ (List.mem_of_getElem? (i := 6) rfl)) (by decide) (by decide)) q1a q1c (g := (mkF m 3 #[rv x, iv (5 : Int32)] [(.ref x), (.int (5 : Int32)), (.ref x)])) rfl (by rw [hml]; rfl) (argsL := []) (rest := [(.int (5 : Int32)), (.ref x)]) (lenOf pd___I rfl) rfl (by show 2 * 0 + _ ≤ _; exact Nat.le_of_eq rfl) (hb hby d21_3) rfl e0 (by decide) (by decide) (c' := 0) (s' := 0) rfl rfl
  clear q1a q1b q1c kq1 cq1
  obtain ⟨rfl, Nq1, eq1⟩ := hQ1
  have N1 := Fr.app N0 Nq1
  refine own_st (T' := T1) (g' := (mkF m 6 #[rv x, iv (5 : Int32)] [(.int (6 : Int32)), (.int (5 : Int32)), (.ref x)])) st1 ?_
  clear st1
  obtain ⟨cq2, kq2, q2a, q2b, q2c⟩ := isOf hZ eq1 E_x
  obtain ⟨_, T2, L2, X2, hQ2, st2⟩ := own_callV X1 hx (y := own_m19) (z := own_m19) hown (mvT hZ (hw _ (List.mem_of_getElem? (i := 100) rfl))) (mvT hZ (hw _ (List.mem_of_getElem? (i := 101) rfl))) (notFace_of_selects (args := #[]) (mvT hZ (hw _ (List.mem_of_getElem? (i := 103) rfl)))) (mvT hZ (hw _ (List.mem_of_getElem? (i := 103) rfl))) (mvT hZ (hw _ (List.mem_of_getElem? (i := 102) rfl))) (by decide) (backOf (W := 0) (rm_sub_4 l Z a0 hw [] x t kt c0 c1 c2 c3 (58 : Int32) c5 cz fm h0 n0 O0 E_x V_x C_x A_x SC hcz SF hfm) hZ (hw _ (List.mem_of_getElem? (i := 104) rfl)) (hw _ (List.mem_of_getElem? (i := 6) rfl)) (by decide) (by decide)) q2a q2c (g := (mkF m 6 #[rv x, iv (5 : Int32)] [(.int (6 : Int32)), (.int (5 : Int32)), (.ref x)])) rfl (by rw [hml]; rfl) (argsL := [(.int (5 : Int32)), (.int (6 : Int32))]) (rest := []) (lenOf pd__II_Ljava_lang_String_ rfl) rfl (by show 2 * 0 + _ ≤ _; exact Nat.le_of_eq rfl) (hb hby d21_6) rfl eq1 (by decide) (by decide) (c' := 2) (s' := 5) rfl rfl
  clear q2a q2b q2c kq2 cq2
  obtain ⟨b2, u2, ku2, rfl, Nq2, K2, fq2_0, fq2_1, fq2_2, fq2_3, xq2_fresh_b⟩ := hQ2
  have N2 := Fr.app N1 Nq2
  refine own_st (T' := T2) (g' := (mkF m 9 #[rv x, iv (5 : Int32)] [(.ref b2)])) st2 ?_
  clear st2
  have f3 : Keep h0 T2.heap [] := (Keep.refl h0 []).trans K2 all0
  exact own_retA X2 hx hret rfl rfl hlk (hb hby d21_9) (by decide) (by decide) ⟨b2, u2, ku2, rfl, N2, f3, fq2_0, fq2_1, fq2_2, fq2_3, (Nat.le_trans (Keep.refl h0 []).1 xq2_fresh_b)⟩
theorem ef_lp_4 (m : MethodId) (x0 : Addr) : entryFrame m #[(.ref x0)] 1 = mkF m 0 #[rv x0] [] := by first | (simp [entryFrame, mkF, argsToLocals, Value.category]; done) | rfl
def Q_lp_4 (Z : State) (x : Addr) (t : Addr) (kt : ClassId) (c0 : Int32) (c1 : Int32) (c2 : Int32) (c3 : Int32) (c5 : Int32) (cz : Int32) (fm : Value) (h0 : Heap) (n0 : Nat) (v : Option Value) (h : Heap) (L : List Loc) : Prop := ∃ (b : Addr) (u : Addr) (ku : ClassId), (v = some (.ref b)) ∧ (Fr n0 L) ∧ (Keep h0 h []) ∧ (Exa Z h b "java/lang/String") ∧ (Fld Z h b "java/lang/String" "coder" "B" (.int (0 : Int32))) ∧ (Fld Z h b "java/lang/String" "value" "[B" (.ref u)) ∧ (Arv Z h u ku .byte (1 : Int32) [(.int (c5.toInt8.toInt32))] (.int (0 : Int32))) ∧ (h0.size ≤ b)
set_option maxRecDepth 65536 in
set_option maxHeartbeats 40000000 in
theorem rm_lp_4 (l : Launch) (Z : State) (a0 : Array Value) (hw : ∀ d ∈ tables_1, d.before a0 Z = true) (ws : List Jvm.Cond) (x : Addr) (t : Addr) (kt : ClassId) (c0 : Int32) (c1 : Int32) (c2 : Int32) (c3 : Int32) (c5 : Int32) (cz : Int32) (fm : Value) (h0 : Heap) (n0 : Nat) (O0 : Old Z n0 h0) (E_x : Exa Z h0 x "java/lang/String") (V_x : Fld Z h0 x "java/lang/String" "value" "[B" (.ref t)) (C_x : Fld Z h0 x "java/lang/String" "coder" "B" (.int (0 : Int32))) (A_x : Arv Z h0 t kt .byte (6 : Int32) [(.int (c0.toInt8.toInt32)), (.int (c1.toInt8.toInt32)), (.int (c2.toInt8.toInt32)), (.int (c3.toInt8.toInt32)), (.int ((58 : Int32).toInt8.toInt32)), (.int (c5.toInt8.toInt32))] (.int (0 : Int32))) (hn5 : ¬ (c5.toInt8.toInt32) = ((58 : Int32).toInt8.toInt32)) (SC : Sta Z Z.heap "java/lang/String" "COMPACT_STRINGS" "Z" (.int cz)) (hcz : ¬ cz = (0 : Int32)) (SF : Sta Z Z.heap "jdk/internal/util/Preconditions" "SIOOBE_FORMATTER" "Ljava/util/function/BiFunction;" fm) (hfm : fm.isRef = true) :
    MetFree l own_m21 (head1 (Jvm.Cond.code own_m21 prog_26_method_7_code 1 (some (.object "java/lang/String")) :: ws) ({ frames := 6, cells := 2, slots := 5, locals := 115 } : Room)) (fun ar_ U => ar_ = #[(.ref x)] ∧ Z.Warmed39 U.vm ∧ U.heap = h0) (fun _ _ _ _ _ => True) (fun _ U o U' => ∃ v L, o = .returned v ∧ Q_lp_4 Z x t kt c0 c1 c2 c3 c5 cz fm h0 n0 v U'.heap L ∧ FrameEnd U o U' L ({ frames := 6, cells := 2, slots := 5, locals := 115 } : Room).cells ({ frames := 6, cells := 2, slots := 5, locals := 115 } : Room).slots) := by
  refine MetFree.of_bodySF (plainFor_of_name pn_6) hisR ?_
  intro p e s m args below meth c s₁ Bd hml0 hP hK
  obtain ⟨rfl, hZ, hh⟩ := hP
  have hx := Bd.exec
  have hby := Bd.bytes
  have hml : c.maxLocals = 1 := hml0
  have hown : s.vm.findClass "com/example/sheafgate/sheafgate/store/SetSpecs" = some m.cls := findClass_of_methodNamed Bd.named
  have hnm := (name_of_methodNamed Bd.named Bd.method).1
  have X0 : Stand p l e ({ frames := 6, cells := 2, slots := 5, locals := 115 } : Room) s m #[(.ref x)] below meth c s₁ [] 0 0 := Stand.of_body Bd
  have e0 : s₁.heap = h0 := by rw [← hh, Bd.state]; rfl
  have N0 := Fr.nil n0
  have hret := Bd.returns
  have hlk : meth.locks = false := Bd.notSynchronized
  show own_E p e below s ({ frames := 6, cells := 2, slots := 5, locals := 115 } : Room).cells ({ frames := 6, cells := 2, slots := 5, locals := 115 } : Room).slots (Q_lp_4 Z x t kt c0 c1 c2 c3 c5 cz fm h0 n0) s₁ (entryFrame m #[(.ref x)] 1)
  rw [ef_lp_4 m x]
  refine own_st (T' := s₁) (g' := (mkF m 1 #[rv x] [(.ref x)])) (fun _ k_ => XS.aloadN X0.here hx rfl (hb hby d13_0) rfl rfl  k_) ?_
  refine own_st (T' := s₁) (g' := (mkF m 2 #[rv x] [(.ref x), (.ref x)])) (fun _ k_ => XS.aloadN X0.here hx rfl (hb hby d13_1) rfl rfl  k_) ?_
  refine own_st (T' := s₁) (g' := (mkF m 4 #[rv x] [(.int (58 : Int32)), (.ref x), (.ref x)])) (fun _ k_ => XS.bipush X0.here hx rfl (hb hby d13_2) k_) ?_
  obtain ⟨cq1, kq1, q1a, q1b, q1c⟩ := isOf hZ e0 E_x
  obtain ⟨_, T1, L1, X1, hQ1, st1⟩ := own_callV X0 hx (y := own_m18) (z := own_m18) hown (mvT hZ (hw _ (List.mem_of_getElem? (i := 65) rfl))) (mvT hZ (hw _ (List.mem_of_getElem? (i := 66) rfl))) (notFace_of_selects (args := #[]) (mvT hZ (hw _ (List.mem_of_getElem? (i := 68) rfl)))) (mvT hZ (hw _ (List.mem_of_getElem? (i := 68) rfl))) (mvT hZ (hw _ (List.mem_of_getElem? (i := 67) rfl))) (by decide) (backOf (W := 1) (rm_li1 l Z a0 hw [] x t kt c0 c1 c2 c3 (58 : Int32) c5 cz h0 n0 O0 E_x V_x C_x A_x SC hcz) hZ (hw _ (List.mem_of_getElem? (i := 69) rfl)) (hw _ (List.mem_of_getElem? (i := 6) rfl)) (by decide) (by decide)) q1a q1c (g := (mkF m 4 #[rv x] [(.int (58 : Int32)), (.ref x), (.ref x)])) rfl (by rw [hml]; rfl) (argsL := [(.int (58 : Int32))]) (rest := [(.ref x)]) (lenOf pd__I_I rfl) rfl (by show 2 * 0 + _ ≤ _; exact Nat.le_of_eq rfl) (hb hby d13_4) rfl e0 (by decide) (by decide) (c' := 0) (s' := 0) rfl rfl
  clear q1a q1b q1c kq1 cq1
  obtain ⟨rfl, Nq1, eq1⟩ := hQ1
  have N1 := Fr.app N0 Nq1
  refine own_st (T' := T1) (g' := (mkF m 7 #[rv x] [(.int (own_la c0 c1 c2 c3 (58 : Int32) c5)), (.ref x)])) st1 ?_
  clear st1
  rw [own_la4 c0 c1 c2 c3 c5 hn5]
  refine own_st (T' := T1) (g' := (mkF m 8 #[rv x] [(.int (1 : Int32)), (.int (4 : Int32)), (.ref x)])) (fun _ k_ => XS.iconst X1.here hx rfl (hb hby d13_7) k_) ?_
  refine own_st (T' := T1) (g' := (mkF m 9 #[rv x] [(.int (5 : Int32)), (.ref x)])) (fun _ k_ => XS.iadd X1.here hx rfl (hb hby d13_8) rfl k_) ?_
  obtain ⟨cq2, kq2, q2a, q2b, q2c⟩ := isOf hZ eq1 E_x
  obtain ⟨_, T2, L2, X2, hQ2, st2⟩ := own_callV X1 hx (y := own_m20) (z := own_m20) hown (mvT hZ (hw _ (List.mem_of_getElem? (i := 95) rfl))) (mvT hZ (hw _ (List.mem_of_getElem? (i := 96) rfl))) (notFace_of_selects (args := #[]) (mvT hZ (hw _ (List.mem_of_getElem? (i := 98) rfl)))) (mvT hZ (hw _ (List.mem_of_getElem? (i := 98) rfl))) (mvT hZ (hw _ (List.mem_of_getElem? (i := 97) rfl))) (by decide) (backOf (W := 0) (rm_su1_4 l Z a0 hw [] x t kt c0 c1 c2 c3 c5 cz fm h0 n0 O0 E_x V_x C_x A_x SC hcz SF hfm) hZ (hw _ (List.mem_of_getElem? (i := 99) rfl)) (hw _ (List.mem_of_getElem? (i := 6) rfl)) (by decide) (by decide)) q2a q2c (g := (mkF m 9 #[rv x] [(.int (5 : Int32)), (.ref x)])) rfl (by rw [hml]; rfl) (argsL := [(.int (5 : Int32))]) (rest := []) (lenOf pd__I_Ljava_lang_String_ rfl) rfl (by show 2 * 0 + _ ≤ _; exact Nat.le_of_eq rfl) (hb hby d13_9) rfl eq1 (by decide) (by decide) (c' := 2) (s' := 5) rfl rfl
  clear q2a q2b q2c kq2 cq2
  obtain ⟨b2, u2, ku2, rfl, Nq2, K2, fq2_0, fq2_1, fq2_2, fq2_3, xq2_fresh_b⟩ := hQ2
  have N2 := Fr.app N1 Nq2
  refine own_st (T' := T2) (g' := (mkF m 12 #[rv x] [(.ref b2)])) st2 ?_
  clear st2
  have f3 : Keep h0 T2.heap [] := (Keep.refl h0 []).trans K2 all0
  exact own_retA X2 hx hret rfl rfl hlk (hb hby d13_12) (by decide) (by decide) ⟨b2, u2, ku2, rfl, N2, f3, fq2_0, fq2_1, fq2_2, fq2_3, (Nat.le_trans (Keep.refl h0 []).1 xq2_fresh_b)⟩
theorem d25_0 : decode method_3_code 0 = .ok (.iload_n 3, 1) := by decide +kernel
theorem d25_1 : decode method_3_code 1 = .ok (.iload_n 2, 1) := by decide +kernel
theorem d25_2 : decode method_3_code 2 = .ok (.if_icmp .gt 5, 3) := by decide +kernel
theorem d25_5 : decode method_3_code 5 = .ok (.iconst 1, 1) := by decide +kernel
theorem d25_6 : decode method_3_code 6 = .ok (.ireturn, 1) := by decide +kernel
theorem ef_at0 (m : MethodId) (x0 : Addr) (x1 : Addr) (x2 : Int32) (x3 : Int32) : entryFrame m #[(.ref x0), (.ref x1), (.int x2), (.int x3)] 4 = mkF m 0 #[rv x0, rv x1, iv x2, iv x3] [] := by first | (simp [entryFrame, mkF, argsToLocals, Value.category]; done) | rfl
def Q_at0 (Z : State) (x : Addr) (va : Addr) (lst : Int32) (jj : Int32) (h0 : Heap) (n0 : Nat) (v : Option Value) (h : Heap) (L : List Loc) : Prop := (v = some (.int (1 : Int32))) ∧ (Fr n0 L) ∧ (h = h0)
set_option maxRecDepth 65536 in
set_option maxHeartbeats 40000000 in
theorem rm_at0 (l : Launch) (Z : State) (a0 : Array Value) (hw : ∀ d ∈ tables_1, d.before a0 Z = true) (ws : List Jvm.Cond) (x : Addr) (va : Addr) (lst : Int32) (jj : Int32) (h0 : Heap) (n0 : Nat) (O0 : Old Z n0 h0) (hle : ¬ lst < jj) :
    MetFree l own_m25 (head1 (Jvm.Cond.code own_m25 method_3_code 4 (some .boolean) :: ws) ({ frames := 0, cells := 0, slots := 0, locals := 0 } : Room)) (fun ar_ U => ar_ = #[(.ref x), (.ref va), (.int lst), (.int jj)] ∧ Z.Warmed39 U.vm ∧ U.heap = h0) (fun _ _ _ _ _ => True) (fun _ U o U' => ∃ v L, o = .returned v ∧ Q_at0 Z x va lst jj h0 n0 v U'.heap L ∧ FrameEnd U o U' L ({ frames := 0, cells := 0, slots := 0, locals := 0 } : Room).cells ({ frames := 0, cells := 0, slots := 0, locals := 0 } : Room).slots) := by
  refine MetFree.of_bodySF (plainFor_of_name pn_4) hisR ?_
  intro p e s m args below meth c s₁ Bd hml0 hP hK
  obtain ⟨rfl, hZ, hh⟩ := hP
  have hx := Bd.exec
  have hby := Bd.bytes
  have hml : c.maxLocals = 4 := hml0
  have hown : s.vm.findClass "com/example/sheafgate/sheafgate/store/SetSpecsLastPartPinLaw" = some m.cls := findClass_of_methodNamed Bd.named
  have hnm := (name_of_methodNamed Bd.named Bd.method).1
  have X0 : Stand p l e ({ frames := 0, cells := 0, slots := 0, locals := 0 } : Room) s m #[(.ref x), (.ref va), (.int lst), (.int jj)] below meth c s₁ [] 0 0 := Stand.of_body Bd
  have e0 : s₁.heap = h0 := by rw [← hh, Bd.state]; rfl
  have N0 := Fr.nil n0
  have hret := Bd.returns
  have hlk : meth.locks = false := Bd.notSynchronized
  show own_E p e below s ({ frames := 0, cells := 0, slots := 0, locals := 0 } : Room).cells ({ frames := 0, cells := 0, slots := 0, locals := 0 } : Room).slots (Q_at0 Z x va lst jj h0 n0) s₁ (entryFrame m #[(.ref x), (.ref va), (.int lst), (.int jj)] 4)
  rw [ef_at0 m x va lst jj]
  refine own_st (T' := s₁) (g' := (mkF m 1 #[rv x, rv va, iv lst, iv jj] [(.int jj)])) (fun _ k_ => XS.iloadN X0.here hx rfl (hb hby d25_0) rfl  k_) ?_
  refine own_st (T' := s₁) (g' := (mkF m 2 #[rv x, rv va, iv lst, iv jj] [(.int lst), (.int jj)])) (fun _ k_ => XS.iloadN X0.here hx rfl (hb hby d25_1) rfl  k_) ?_
  refine own_st (T' := s₁) (g' := (mkF m 5 #[rv x, rv va, iv lst, iv jj] [])) (fun _ k_ => XS.icmpNo X0.here hx rfl (hb hby d25_2) rfl (flt (hle : ¬ (lst < jj))).2.2.1 k_) ?_
  refine own_st (T' := s₁) (g' := (mkF m 6 #[rv x, rv va, iv lst, iv jj] [(.int (1 : Int32))])) (fun _ k_ => XS.iconst X0.here hx rfl (hb hby d25_5) k_) ?_
  exact own_retN X0 hx (t := .boolean) hret (by simp) hlk (hb hby d25_6) (by decide) (by decide) ⟨rfl, N0, e0⟩
theorem d25_7 : decode method_3_code 7 = .ok (.aload_n 0, 1) := by decide +kernel
theorem d25_8 : decode method_3_code 8 = .ok (.iload_n 3, 1) := by decide +kernel
theorem d25_9 : decode method_3_code 9 = .ok (.iload_n 2, 1) := by decide +kernel
theorem d25_10 : decode method_3_code 10 = .ok (.isub, 1) := by decide +kernel
theorem d25_11 : decode method_3_code 11 = .ok (.iconst 1, 1) := by decide +kernel
theorem d25_12 : decode method_3_code 12 = .ok (.isub, 1) := by decide +kernel
theorem d25_13 : decode method_3_code 13 = .ok (.invokevirtual 13, 3) := by decide +kernel
theorem d25_16 : decode method_3_code 16 = .ok (.aload_n 1, 1) := by decide +kernel
theorem d25_17 : decode method_3_code 17 = .ok (.iload_n 3, 1) := by decide +kernel
theorem d25_18 : decode method_3_code 18 = .ok (.caload, 1) := by decide +kernel
theorem d25_19 : decode method_3_code 19 = .ok (.if_icmp .ne 7, 3) := by decide +kernel
theorem d25_22 : decode method_3_code 22 = .ok (.iconst 1, 1) := by decide +kernel
theorem d25_23 : decode method_3_code 23 = .ok (.goto 4, 3) := by decide +kernel
theorem d25_27 : decode method_3_code 27 = .ok (.ireturn, 1) := by decide +kernel
theorem ef_at_0 (m : MethodId) (x0 : Addr) (x1 : Addr) (x2 : Int32) (x3 : Int32) : entryFrame m #[(.ref x0), (.ref x1), (.int x2), (.int x3)] 4 = mkF m 0 #[rv x0, rv x1, iv x2, iv x3] [] := by first | (simp [entryFrame, mkF, argsToLocals, Value.category]; done) | rfl
def Q_at_0 (Z : State) (x : Addr) (va : Addr) (lst : Int32) (t : Addr) (kt : ClassId) (cs : List Int32) (ii : Nat) (kc : ClassId) (c0 : Int32) (c1 : Int32) (c2 : Int32) (c3 : Int32) (c4 : Int32) (c5 : Int32) (cz : Int32) (fm : Value) (h0 : Heap) (n0 : Nat) (v : Option Value) (h : Heap) (L : List Loc) : Prop := (v = some (.int (1 : Int32))) ∧ (Fr n0 L) ∧ (h = h0)
set_option maxRecDepth 65536 in
set_option maxHeartbeats 40000000 in
theorem rm_at_0 (l : Launch) (Z : State) (a0 : Array Value) (hw : ∀ d ∈ tables_1, d.before a0 Z = true) (ws : List Jvm.Cond) (x : Addr) (va : Addr) (lst : Int32) (t : Addr) (kt : ClassId) (cs : List Int32) (ii : Nat) (kc : ClassId) (c0 : Int32) (c1 : Int32) (c2 : Int32) (c3 : Int32) (c4 : Int32) (c5 : Int32) (cz : Int32) (fm : Value) (h0 : Heap) (n0 : Nat) (O0 : Old Z n0 h0) (E_x : Exa Z h0 x "java/lang/String") (V_x : Fld Z h0 x "java/lang/String" "value" "[B" (.ref t)) (C_x : Fld Z h0 x "java/lang/String" "coder" "B" (.int (0 : Int32))) (A_x : Arv Z h0 t kt .byte (Int32.ofNat cs.length) ((cs.map StrChars.lo8).map Value.int) (.int (0 : Int32))) (VA : Arv Z h0 va kc .char (6 : Int32) [(.int c0), (.int c1), (.int c2), (.int c3), (.int c4), (.int c5)] (.int (0 : Int32))) (hp : ∀ c ∈ cs, ¬ c < 0 ∧ ¬ (255 : Int32) < c) (lcs : cs.length ≤ 4000) (hgt : lst < (0 : Int32)) (hi : ii < cs.length) (hij : ((0 : Int32) - lst) - (1 : Int32) = Int32.ofNat ii) (hv : cs.getD ii 0 = c0) (SC : Sta Z Z.heap "java/lang/String" "COMPACT_STRINGS" "Z" (.int cz)) (hcz : ¬ cz = (0 : Int32)) (SF : Sta Z Z.heap "jdk/internal/util/Preconditions" "SIOOBE_FORMATTER" "Ljava/util/function/BiFunction;" fm) (hfm : fm.isRef = true) :
    MetFree l own_m25 (head1 (Jvm.Cond.code own_m25 method_3_code 4 (some .boolean) :: ws) ({ frames := 4, cells := 0, slots := 0, locals := 53 } : Room)) (fun ar_ U => ar_ = #[(.ref x), (.ref va), (.int lst), (.int (0 : Int32))] ∧ Z.Warmed39 U.vm ∧ U.heap = h0) (fun _ _ _ _ _ => True) (fun _ U o U' => ∃ v L, o = .returned v ∧ Q_at_0 Z x va lst t kt cs ii kc c0 c1 c2 c3 c4 c5 cz fm h0 n0 v U'.heap L ∧ FrameEnd U o U' L ({ frames := 4, cells := 0, slots := 0, locals := 53 } : Room).cells ({ frames := 4, cells := 0, slots := 0, locals := 53 } : Room).slots) := by
  refine MetFree.of_bodySF (plainFor_of_name pn_4) hisR ?_
  intro p e s m args below meth c s₁ Bd hml0 hP hK
  obtain ⟨rfl, hZ, hh⟩ := hP
  have hx := Bd.exec
  have hby := Bd.bytes
  have hml : c.maxLocals = 4 := hml0
  have hown : s.vm.findClass "com/example/sheafgate/sheafgate/store/SetSpecsLastPartPinLaw" = some m.cls := findClass_of_methodNamed Bd.named
  have hnm := (name_of_methodNamed Bd.named Bd.method).1
  have X0 : Stand p l e ({ frames := 4, cells := 0, slots := 0, locals := 53 } : Room) s m #[(.ref x), (.ref va), (.int lst), (.int (0 : Int32))] below meth c s₁ [] 0 0 := Stand.of_body Bd
  have e0 : s₁.heap = h0 := by rw [← hh, Bd.state]; rfl
  have N0 := Fr.nil n0
  have hret := Bd.returns
  have hlk : meth.locks = false := Bd.notSynchronized
  show own_E p e below s ({ frames := 4, cells := 0, slots := 0, locals := 53 } : Room).cells ({ frames := 4, cells := 0, slots := 0, locals := 53 } : Room).slots (Q_at_0 Z x va lst t kt cs ii kc c0 c1 c2 c3 c4 c5 cz fm h0 n0) s₁ (entryFrame m #[(.ref x), (.ref va), (.int lst), (.int (0 : Int32))] 4)
  rw [ef_at_0 m x va lst (0 : Int32)]
  refine own_st (T' := s₁) (g' := (mkF m 1 #[rv x, rv va, iv lst, iv (0 : Int32)] [(.int (0 : Int32))])) (fun _ k_ => XS.iloadN X0.here hx rfl (hb hby d25_0) rfl  k_) ?_
  refine own_st (T' := s₁) (g' := (mkF m 2 #[rv x, rv va, iv lst, iv (0 : Int32)] [(.int lst), (.int (0 : Int32))])) (fun _ k_ => XS.iloadN X0.here hx rfl (hb hby d25_1) rfl  k_) ?_
  refine own_st (T' := s₁) (g' := (mkF m 7 #[rv x, rv va, iv lst, iv (0 : Int32)] [])) (fun _ k_ => XS.icmpYes X0.here hx rfl (pc0 := 2) (pc' := 7) rfl (hb hby d25_2) rfl (tlt (hgt : lst < (0 : Int32))).2.2.1 (by decide) (by decide) k_) ?_
  refine own_st (T' := s₁) (g' := (mkF m 8 #[rv x, rv va, iv lst, iv (0 : Int32)] [(.ref x)])) (fun _ k_ => XS.aloadN X0.here hx rfl (hb hby d25_7) rfl rfl  k_) ?_
  refine own_st (T' := s₁) (g' := (mkF m 9 #[rv x, rv va, iv lst, iv (0 : Int32)] [(.int (0 : Int32)), (.ref x)])) (fun _ k_ => XS.iloadN X0.here hx rfl (hb hby d25_8) rfl  k_) ?_
  refine own_st (T' := s₁) (g' := (mkF m 10 #[rv x, rv va, iv lst, iv (0 : Int32)] [(.int lst), (.int (0 : Int32)), (.ref x)])) (fun _ k_ => XS.iloadN X0.here hx rfl (hb hby d25_9) rfl  k_) ?_
  refine own_st (T' := s₁) (g' := (mkF m 11 #[rv x, rv va, iv lst, iv (0 : Int32)] [(.int ((0 : Int32) - lst)), (.ref x)])) (fun _ k_ => XS.isub X0.here hx rfl (hb hby d25_10) rfl k_) ?_
  refine own_st (T' := s₁) (g' := (mkF m 12 #[rv x, rv va, iv lst, iv (0 : Int32)] [(.int (1 : Int32)), (.int ((0 : Int32) - lst)), (.ref x)])) (fun _ k_ => XS.iconst X0.here hx rfl (hb hby d25_11) k_) ?_
  refine own_st (T' := s₁) (g' := (mkF m 13 #[rv x, rv va, iv lst, iv (0 : Int32)] [(.int (((0 : Int32) - lst) - (1 : Int32))), (.ref x)])) (fun _ k_ => XS.isub X0.here hx rfl (hb hby d25_12) rfl k_) ?_
  obtain ⟨cq1, kq1, q1a, q1b, q1c⟩ := isOf hZ e0 E_x
  obtain ⟨v1, T1, L1, X1, ⟨hv1, rfl, eq1⟩, st1⟩ := own_callV X0 hx (y := own_m13) (z := own_m13) hown (mvT hZ (hw _ (List.mem_of_getElem? (i := 15) rfl))) (mvT hZ (hw _ (List.mem_of_getElem? (i := 16) rfl))) (notFace_of_selects (args := #[]) (mvT hZ (hw _ (List.mem_of_getElem? (i := 18) rfl)))) (mvT hZ (hw _ (List.mem_of_getElem? (i := 18) rfl))) (mvT hZ (hw _ (List.mem_of_getElem? (i := 17) rfl))) (by decide) (rm := ({ frames := 0, cells := 0, slots := 0, locals := 0 } : Room)) (Q := fun v h' L => v = some (.int (List.getD cs ii 0)) ∧ L = [] ∧ h' = h0) (StrChars.Road.chN (W := 0) hZ (own_wCh hw) (kI := 4) (hw _ (List.mem_of_getElem? (i := 7) rfl)) E_x V_x C_x A_x (StrChars.Road.codOf (cs := cs) (n := List.length cs) rfl (fun c hc => (hp c hc).2)) (own_up _ hp) (SC.ext O0.2) hcz (SF.ext O0.2) hfm lcs (i := ii) hi (j := (((0 : Int32) - lst) - (1 : Int32))) hij (by decide) (by decide)) q1a q1c (g := (mkF m 13 #[rv x, rv va, iv lst, iv (0 : Int32)] [(.int (((0 : Int32) - lst) - (1 : Int32))), (.ref x)])) rfl (by rw [hml]; rfl) (argsL := [(.int (((0 : Int32) - lst) - (1 : Int32)))]) (rest := []) (lenOf pd__I_C rfl) rfl (by show 2 * 0 + _ ≤ _; exact Nat.le_of_eq rfl) (hb hby d25_13) rfl e0 (by decide) (by decide) (c' := 0) (s' := 0) rfl rfl
  clear q1a q1b q1c kq1 cq1
  have N1 := Fr.app N0 (Fr.nil n0)
  obtain rfl : v1 = some (.int c0) := hv1.trans (congrArg (fun z => some (Value.int z)) hv)
  refine own_st (T' := T1) (g' := (mkF m 16 #[rv x, rv va, iv lst, iv (0 : Int32)] [(.int c0)])) st1 ?_
  clear st1
  refine own_st (T' := T1) (g' := (mkF m 17 #[rv x, rv va, iv lst, iv (0 : Int32)] [(.ref va), (.int c0)])) (fun _ k_ => XS.aloadN X1.here hx rfl (hb hby d25_16) rfl rfl  k_) ?_
  refine own_st (T' := T1) (g' := (mkF m 18 #[rv x, rv va, iv lst, iv (0 : Int32)] [(.int (0 : Int32)), (.ref va), (.int c0)])) (fun _ k_ => XS.iloadN X1.here hx rfl (hb hby d25_17) rfl  k_) ?_
  obtain ⟨cl2, Ar2, q2, S2, N2, H2, G2⟩ := id VA
  have hin2 : ¬ ((0 : Int32) < 0 ∨ cl2.slots.size ≤ ((0 : Int32)).toNatClampNeg) := inb_of S2 ⟨by decide, by decide⟩
  refine own_st (T' := T1) (g' := (mkF m 19 #[rv x, rv va, iv lst, iv (0 : Int32)] [(.int c0), (.int c0)])) (X1.caload hx (j := (0 : Int32)) (v := (.int c0)) (by rw [eq1]; exact Ar2.1) (State.isArrayOf_alike hZ.alike Ar2.2.1) Ar2.2.2 hin2 (H2.at hin2 rfl) (g := (mkF m 18 #[rv x, rv va, iv lst, iv (0 : Int32)] [(.int (0 : Int32)), (.ref va), (.int c0)])) rfl rfl (hb hby d25_18)) ?_
  clear hin2 G2 H2 N2 S2 q2 Ar2 cl2
  refine own_st (T' := T1) (g' := (mkF m 22 #[rv x, rv va, iv lst, iv (0 : Int32)] [])) (fun _ k_ => XS.icmpNo X1.here hx rfl (hb hby d25_19) rfl (teq (rfl : c0 = c0)).2 k_) ?_
  refine own_st (T' := T1) (g' := (mkF m 23 #[rv x, rv va, iv lst, iv (0 : Int32)] [(.int (1 : Int32))])) (fun _ k_ => XS.iconst X1.here hx rfl (hb hby d25_22) k_) ?_
  refine own_st (T' := T1) (g' := (mkF m 27 #[rv x, rv va, iv lst, iv (0 : Int32)] [(.int (1 : Int32))])) (fun _ k_ => XS.goto X1.here hx rfl (pc0 := 23) (pc' := 27) rfl (hb hby d25_23) (by decide) (by decide) k_) ?_
  exact own_retN X1 hx (t := .boolean) hret (by simp) hlk (hb hby d25_27) (by decide) (by decide) ⟨rfl, N1, eq1⟩
theorem ef_at_1 (m : MethodId) (x0 : Addr) (x1 : Addr) (x2 : Int32) (x3 : Int32) : entryFrame m #[(.ref x0), (.ref x1), (.int x2), (.int x3)] 4 = mkF m 0 #[rv x0, rv x1, iv x2, iv x3] [] := by first | (simp [entryFrame, mkF, argsToLocals, Value.category]; done) | rfl
def Q_at_1 (Z : State) (x : Addr) (va : Addr) (lst : Int32) (t : Addr) (kt : ClassId) (cs : List Int32) (ii : Nat) (kc : ClassId) (c0 : Int32) (c1 : Int32) (c2 : Int32) (c3 : Int32) (c4 : Int32) (c5 : Int32) (cz : Int32) (fm : Value) (h0 : Heap) (n0 : Nat) (v : Option Value) (h : Heap) (L : List Loc) : Prop := (v = some (.int (1 : Int32))) ∧ (Fr n0 L) ∧ (h = h0)
set_option maxRecDepth 65536 in
set_option maxHeartbeats 40000000 in
theorem rm_at_1 (l : Launch) (Z : State) (a0 : Array Value) (hw : ∀ d ∈ tables_1, d.before a0 Z = true) (ws : List Jvm.Cond) (x : Addr) (va : Addr) (lst : Int32) (t : Addr) (kt : ClassId) (cs : List Int32) (ii : Nat) (kc : ClassId) (c0 : Int32) (c1 : Int32) (c2 : Int32) (c3 : Int32) (c4 : Int32) (c5 : Int32) (cz : Int32) (fm : Value) (h0 : Heap) (n0 : Nat) (O0 : Old Z n0 h0) (E_x : Exa Z h0 x "java/lang/String") (V_x : Fld Z h0 x "java/lang/String" "value" "[B" (.ref t)) (C_x : Fld Z h0 x "java/lang/String" "coder" "B" (.int (0 : Int32))) (A_x : Arv Z h0 t kt .byte (Int32.ofNat cs.length) ((cs.map StrChars.lo8).map Value.int) (.int (0 : Int32))) (VA : Arv Z h0 va kc .char (6 : Int32) [(.int c0), (.int c1), (.int c2), (.int c3), (.int c4), (.int c5)] (.int (0 : Int32))) (hp : ∀ c ∈ cs, ¬ c < 0 ∧ ¬ (255 : Int32) < c) (lcs : cs.length ≤ 4000) (hgt : lst < (1 : Int32)) (hi : ii < cs.length) (hij : ((1 : Int32) - lst) - (1 : Int32) = Int32.ofNat ii) (hv : cs.getD ii 0 = c1) (SC : Sta Z Z.heap "java/lang/String" "COMPACT_STRINGS" "Z" (.int cz)) (hcz : ¬ cz = (0 : Int32)) (SF : Sta Z Z.heap "jdk/internal/util/Preconditions" "SIOOBE_FORMATTER" "Ljava/util/function/BiFunction;" fm) (hfm : fm.isRef = true) :
    MetFree l own_m25 (head1 (Jvm.Cond.code own_m25 method_3_code 4 (some .boolean) :: ws) ({ frames := 4, cells := 0, slots := 0, locals := 53 } : Room)) (fun ar_ U => ar_ = #[(.ref x), (.ref va), (.int lst), (.int (1 : Int32))] ∧ Z.Warmed39 U.vm ∧ U.heap = h0) (fun _ _ _ _ _ => True) (fun _ U o U' => ∃ v L, o = .returned v ∧ Q_at_1 Z x va lst t kt cs ii kc c0 c1 c2 c3 c4 c5 cz fm h0 n0 v U'.heap L ∧ FrameEnd U o U' L ({ frames := 4, cells := 0, slots := 0, locals := 53 } : Room).cells ({ frames := 4, cells := 0, slots := 0, locals := 53 } : Room).slots) := by
  refine MetFree.of_bodySF (plainFor_of_name pn_4) hisR ?_
  intro p e s m args below meth c s₁ Bd hml0 hP hK
  obtain ⟨rfl, hZ, hh⟩ := hP
  have hx := Bd.exec
  have hby := Bd.bytes
  have hml : c.maxLocals = 4 := hml0
  have hown : s.vm.findClass "com/example/sheafgate/sheafgate/store/SetSpecsLastPartPinLaw" = some m.cls := findClass_of_methodNamed Bd.named
  have hnm := (name_of_methodNamed Bd.named Bd.method).1
  have X0 : Stand p l e ({ frames := 4, cells := 0, slots := 0, locals := 53 } : Room) s m #[(.ref x), (.ref va), (.int lst), (.int (1 : Int32))] below meth c s₁ [] 0 0 := Stand.of_body Bd
  have e0 : s₁.heap = h0 := by rw [← hh, Bd.state]; rfl
  have N0 := Fr.nil n0
  have hret := Bd.returns
  have hlk : meth.locks = false := Bd.notSynchronized
  show own_E p e below s ({ frames := 4, cells := 0, slots := 0, locals := 53 } : Room).cells ({ frames := 4, cells := 0, slots := 0, locals := 53 } : Room).slots (Q_at_1 Z x va lst t kt cs ii kc c0 c1 c2 c3 c4 c5 cz fm h0 n0) s₁ (entryFrame m #[(.ref x), (.ref va), (.int lst), (.int (1 : Int32))] 4)
  rw [ef_at_1 m x va lst (1 : Int32)]
  refine own_st (T' := s₁) (g' := (mkF m 1 #[rv x, rv va, iv lst, iv (1 : Int32)] [(.int (1 : Int32))])) (fun _ k_ => XS.iloadN X0.here hx rfl (hb hby d25_0) rfl  k_) ?_
  refine own_st (T' := s₁) (g' := (mkF m 2 #[rv x, rv va, iv lst, iv (1 : Int32)] [(.int lst), (.int (1 : Int32))])) (fun _ k_ => XS.iloadN X0.here hx rfl (hb hby d25_1) rfl  k_) ?_
  refine own_st (T' := s₁) (g' := (mkF m 7 #[rv x, rv va, iv lst, iv (1 : Int32)] [])) (fun _ k_ => XS.icmpYes X0.here hx rfl (pc0 := 2) (pc' := 7) rfl (hb hby d25_2) rfl (tlt (hgt : lst < (1 : Int32))).2.2.1 (by decide) (by decide) k_) ?_
  refine own_st (T' := s₁) (g' := (mkF m 8 #[rv x, rv va, iv lst, iv (1 : Int32)] [(.ref x)])) (fun _ k_ => XS.aloadN X0.here hx rfl (hb hby d25_7) rfl rfl  k_) ?_
  refine own_st (T' := s₁) (g' := (mkF m 9 #[rv x, rv va, iv lst, iv (1 : Int32)] [(.int (1 : Int32)), (.ref x)])) (fun _ k_ => XS.iloadN X0.here hx rfl (hb hby d25_8) rfl  k_) ?_
  refine own_st (T' := s₁) (g' := (mkF m 10 #[rv x, rv va, iv lst, iv (1 : Int32)] [(.int lst), (.int (1 : Int32)), (.ref x)])) (fun _ k_ => XS.iloadN X0.here hx rfl (hb hby d25_9) rfl  k_) ?_
  refine own_st (T' := s₁) (g' := (mkF m 11 #[rv x, rv va, iv lst, iv (1 : Int32)] [(.int ((1 : Int32) - lst)), (.ref x)])) (fun _ k_ => XS.isub X0.here hx rfl (hb hby d25_10) rfl k_) ?_
  refine own_st (T' := s₁) (g' := (mkF m 12 #[rv x, rv va, iv lst, iv (1 : Int32)] [(.int (1 : Int32)), (.int ((1 : Int32) - lst)), (.ref x)])) (fun _ k_ => XS.iconst X0.here hx rfl (hb hby d25_11) k_) ?_
  refine own_st (T' := s₁) (g' := (mkF m 13 #[rv x, rv va, iv lst, iv (1 : Int32)] [(.int (((1 : Int32) - lst) - (1 : Int32))), (.ref x)])) (fun _ k_ => XS.isub X0.here hx rfl (hb hby d25_12) rfl k_) ?_
  obtain ⟨cq1, kq1, q1a, q1b, q1c⟩ := isOf hZ e0 E_x
  obtain ⟨v1, T1, L1, X1, ⟨hv1, rfl, eq1⟩, st1⟩ := own_callV X0 hx (y := own_m13) (z := own_m13) hown (mvT hZ (hw _ (List.mem_of_getElem? (i := 15) rfl))) (mvT hZ (hw _ (List.mem_of_getElem? (i := 16) rfl))) (notFace_of_selects (args := #[]) (mvT hZ (hw _ (List.mem_of_getElem? (i := 18) rfl)))) (mvT hZ (hw _ (List.mem_of_getElem? (i := 18) rfl))) (mvT hZ (hw _ (List.mem_of_getElem? (i := 17) rfl))) (by decide) (rm := ({ frames := 0, cells := 0, slots := 0, locals := 0 } : Room)) (Q := fun v h' L => v = some (.int (List.getD cs ii 0)) ∧ L = [] ∧ h' = h0) (StrChars.Road.chN (W := 0) hZ (own_wCh hw) (kI := 4) (hw _ (List.mem_of_getElem? (i := 7) rfl)) E_x V_x C_x A_x (StrChars.Road.codOf (cs := cs) (n := List.length cs) rfl (fun c hc => (hp c hc).2)) (own_up _ hp) (SC.ext O0.2) hcz (SF.ext O0.2) hfm lcs (i := ii) hi (j := (((1 : Int32) - lst) - (1 : Int32))) hij (by decide) (by decide)) q1a q1c (g := (mkF m 13 #[rv x, rv va, iv lst, iv (1 : Int32)] [(.int (((1 : Int32) - lst) - (1 : Int32))), (.ref x)])) rfl (by rw [hml]; rfl) (argsL := [(.int (((1 : Int32) - lst) - (1 : Int32)))]) (rest := []) (lenOf pd__I_C rfl) rfl (by show 2 * 0 + _ ≤ _; exact Nat.le_of_eq rfl) (hb hby d25_13) rfl e0 (by decide) (by decide) (c' := 0) (s' := 0) rfl rfl
  clear q1a q1b q1c kq1 cq1
  have N1 := Fr.app N0 (Fr.nil n0)
  obtain rfl : v1 = some (.int c1) := hv1.trans (congrArg (fun z => some (Value.int z)) hv)
  refine own_st (T' := T1) (g' := (mkF m 16 #[rv x, rv va, iv lst, iv (1 : Int32)] [(.int c1)])) st1 ?_
  clear st1
  refine own_st (T' := T1) (g' := (mkF m 17 #[rv x, rv va, iv lst, iv (1 : Int32)] [(.ref va), (.int c1)])) (fun _ k_ => XS.aloadN X1.here hx rfl (hb hby d25_16) rfl rfl  k_) ?_
  refine own_st (T' := T1) (g' := (mkF m 18 #[rv x, rv va, iv lst, iv (1 : Int32)] [(.int (1 : Int32)), (.ref va), (.int c1)])) (fun _ k_ => XS.iloadN X1.here hx rfl (hb hby d25_17) rfl  k_) ?_
  obtain ⟨cl2, Ar2, q2, S2, N2, H2, G2⟩ := id VA
  have hin2 : ¬ ((1 : Int32) < 0 ∨ cl2.slots.size ≤ ((1 : Int32)).toNatClampNeg) := inb_of S2 ⟨by decide, by decide⟩
  refine own_st (T' := T1) (g' := (mkF m 19 #[rv x, rv va, iv lst, iv (1 : Int32)] [(.int c1), (.int c1)])) (X1.caload hx (j := (1 : Int32)) (v := (.int c1)) (by rw [eq1]; exact Ar2.1) (State.isArrayOf_alike hZ.alike Ar2.2.1) Ar2.2.2 hin2 (H2.at hin2 rfl) (g := (mkF m 18 #[rv x, rv va, iv lst, iv (1 : Int32)] [(.int (1 : Int32)), (.ref va), (.int c1)])) rfl rfl (hb hby d25_18)) ?_
  clear hin2 G2 H2 N2 S2 q2 Ar2 cl2
  refine own_st (T' := T1) (g' := (mkF m 22 #[rv x, rv va, iv lst, iv (1 : Int32)] [])) (fun _ k_ => XS.icmpNo X1.here hx rfl (hb hby d25_19) rfl (teq (rfl : c1 = c1)).2 k_) ?_
  refine own_st (T' := T1) (g' := (mkF m 23 #[rv x, rv va, iv lst, iv (1 : Int32)] [(.int (1 : Int32))])) (fun _ k_ => XS.iconst X1.here hx rfl (hb hby d25_22) k_) ?_
  refine own_st (T' := T1) (g' := (mkF m 27 #[rv x, rv va, iv lst, iv (1 : Int32)] [(.int (1 : Int32))])) (fun _ k_ => XS.goto X1.here hx rfl (pc0 := 23) (pc' := 27) rfl (hb hby d25_23) (by decide) (by decide) k_) ?_
  exact own_retN X1 hx (t := .boolean) hret (by simp) hlk (hb hby d25_27) (by decide) (by decide) ⟨rfl, N1, eq1⟩
theorem ef_at_2 (m : MethodId) (x0 : Addr) (x1 : Addr) (x2 : Int32) (x3 : Int32) : entryFrame m #[(.ref x0), (.ref x1), (.int x2), (.int x3)] 4 = mkF m 0 #[rv x0, rv x1, iv x2, iv x3] [] := by first | (simp [entryFrame, mkF, argsToLocals, Value.category]; done) | rfl
def Q_at_2 (Z : State) (x : Addr) (va : Addr) (lst : Int32) (t : Addr) (kt : ClassId) (cs : List Int32) (ii : Nat) (kc : ClassId) (c0 : Int32) (c1 : Int32) (c2 : Int32) (c3 : Int32) (c4 : Int32) (c5 : Int32) (cz : Int32) (fm : Value) (h0 : Heap) (n0 : Nat) (v : Option Value) (h : Heap) (L : List Loc) : Prop := (v = some (.int (1 : Int32))) ∧ (Fr n0 L) ∧ (h = h0)
set_option maxRecDepth 65536 in
set_option maxHeartbeats 40000000 in
theorem rm_at_2 (l : Launch) (Z : State) (a0 : Array Value) (hw : ∀ d ∈ tables_1, d.before a0 Z = true) (ws : List Jvm.Cond) (x : Addr) (va : Addr) (lst : Int32) (t : Addr) (kt : ClassId) (cs : List Int32) (ii : Nat) (kc : ClassId) (c0 : Int32) (c1 : Int32) (c2 : Int32) (c3 : Int32) (c4 : Int32) (c5 : Int32) (cz : Int32) (fm : Value) (h0 : Heap) (n0 : Nat) (O0 : Old Z n0 h0) (E_x : Exa Z h0 x "java/lang/String") (V_x : Fld Z h0 x "java/lang/String" "value" "[B" (.ref t)) (C_x : Fld Z h0 x "java/lang/String" "coder" "B" (.int (0 : Int32))) (A_x : Arv Z h0 t kt .byte (Int32.ofNat cs.length) ((cs.map StrChars.lo8).map Value.int) (.int (0 : Int32))) (VA : Arv Z h0 va kc .char (6 : Int32) [(.int c0), (.int c1), (.int c2), (.int c3), (.int c4), (.int c5)] (.int (0 : Int32))) (hp : ∀ c ∈ cs, ¬ c < 0 ∧ ¬ (255 : Int32) < c) (lcs : cs.length ≤ 4000) (hgt : lst < (2 : Int32)) (hi : ii < cs.length) (hij : ((2 : Int32) - lst) - (1 : Int32) = Int32.ofNat ii) (hv : cs.getD ii 0 = c2) (SC : Sta Z Z.heap "java/lang/String" "COMPACT_STRINGS" "Z" (.int cz)) (hcz : ¬ cz = (0 : Int32)) (SF : Sta Z Z.heap "jdk/internal/util/Preconditions" "SIOOBE_FORMATTER" "Ljava/util/function/BiFunction;" fm) (hfm : fm.isRef = true) :
    MetFree l own_m25 (head1 (Jvm.Cond.code own_m25 method_3_code 4 (some .boolean) :: ws) ({ frames := 4, cells := 0, slots := 0, locals := 53 } : Room)) (fun ar_ U => ar_ = #[(.ref x), (.ref va), (.int lst), (.int (2 : Int32))] ∧ Z.Warmed39 U.vm ∧ U.heap = h0) (fun _ _ _ _ _ => True) (fun _ U o U' => ∃ v L, o = .returned v ∧ Q_at_2 Z x va lst t kt cs ii kc c0 c1 c2 c3 c4 c5 cz fm h0 n0 v U'.heap L ∧ FrameEnd U o U' L ({ frames := 4, cells := 0, slots := 0, locals := 53 } : Room).cells ({ frames := 4, cells := 0, slots := 0, locals := 53 } : Room).slots) := by
  refine MetFree.of_bodySF (plainFor_of_name pn_4) hisR ?_
  intro p e s m args below meth c s₁ Bd hml0 hP hK
  obtain ⟨rfl, hZ, hh⟩ := hP
  have hx := Bd.exec
  have hby := Bd.bytes
  have hml : c.maxLocals = 4 := hml0
  have hown : s.vm.findClass "com/example/sheafgate/sheafgate/store/SetSpecsLastPartPinLaw" = some m.cls := findClass_of_methodNamed Bd.named
  have hnm := (name_of_methodNamed Bd.named Bd.method).1
  have X0 : Stand p l e ({ frames := 4, cells := 0, slots := 0, locals := 53 } : Room) s m #[(.ref x), (.ref va), (.int lst), (.int (2 : Int32))] below meth c s₁ [] 0 0 := Stand.of_body Bd
  have e0 : s₁.heap = h0 := by rw [← hh, Bd.state]; rfl
  have N0 := Fr.nil n0
  have hret := Bd.returns
  have hlk : meth.locks = false := Bd.notSynchronized
  show own_E p e below s ({ frames := 4, cells := 0, slots := 0, locals := 53 } : Room).cells ({ frames := 4, cells := 0, slots := 0, locals := 53 } : Room).slots (Q_at_2 Z x va lst t kt cs ii kc c0 c1 c2 c3 c4 c5 cz fm h0 n0) s₁ (entryFrame m #[(.ref x), (.ref va), (.int lst), (.int (2 : Int32))] 4)
  rw [ef_at_2 m x va lst (2 : Int32)]
  refine own_st (T' := s₁) (g' := (mkF m 1 #[rv x, rv va, iv lst, iv (2 : Int32)] [(.int (2 : Int32))])) (fun _ k_ => XS.iloadN X0.here hx rfl (hb hby d25_0) rfl  k_) ?_
  refine own_st (T' := s₁) (g' := (mkF m 2 #[rv x, rv va, iv lst, iv (2 : Int32)] [(.int lst), (.int (2 : Int32))])) (fun _ k_ => XS.iloadN X0.here hx rfl (hb hby d25_1) rfl  k_) ?_
  refine own_st (T' := s₁) (g' := (mkF m 7 #[rv x, rv va, iv lst, iv (2 : Int32)] [])) (fun _ k_ => XS.icmpYes X0.here hx rfl (pc0 := 2) (pc' := 7) rfl (hb hby d25_2) rfl (tlt (hgt : lst < (2 : Int32))).2.2.1 (by decide) (by decide) k_) ?_
  refine own_st (T' := s₁) (g' := (mkF m 8 #[rv x, rv va, iv lst, iv (2 : Int32)] [(.ref x)])) (fun _ k_ => XS.aloadN X0.here hx rfl (hb hby d25_7) rfl rfl  k_) ?_
  refine own_st (T' := s₁) (g' := (mkF m 9 #[rv x, rv va, iv lst, iv (2 : Int32)] [(.int (2 : Int32)), (.ref x)])) (fun _ k_ => XS.iloadN X0.here hx rfl (hb hby d25_8) rfl  k_) ?_
  refine own_st (T' := s₁) (g' := (mkF m 10 #[rv x, rv va, iv lst, iv (2 : Int32)] [(.int lst), (.int (2 : Int32)), (.ref x)])) (fun _ k_ => XS.iloadN X0.here hx rfl (hb hby d25_9) rfl  k_) ?_
  refine own_st (T' := s₁) (g' := (mkF m 11 #[rv x, rv va, iv lst, iv (2 : Int32)] [(.int ((2 : Int32) - lst)), (.ref x)])) (fun _ k_ => XS.isub X0.here hx rfl (hb hby d25_10) rfl k_) ?_
  refine own_st (T' := s₁) (g' := (mkF m 12 #[rv x, rv va, iv lst, iv (2 : Int32)] [(.int (1 : Int32)), (.int ((2 : Int32) - lst)), (.ref x)])) (fun _ k_ => XS.iconst X0.here hx rfl (hb hby d25_11) k_) ?_
  refine own_st (T' := s₁) (g' := (mkF m 13 #[rv x, rv va, iv lst, iv (2 : Int32)] [(.int (((2 : Int32) - lst) - (1 : Int32))), (.ref x)])) (fun _ k_ => XS.isub X0.here hx rfl (hb hby d25_12) rfl k_) ?_
  obtain ⟨cq1, kq1, q1a, q1b, q1c⟩ := isOf hZ e0 E_x
  obtain ⟨v1, T1, L1, X1, ⟨hv1, rfl, eq1⟩, st1⟩ := own_callV X0 hx (y := own_m13) (z := own_m13) hown (mvT hZ (hw _ (List.mem_of_getElem? (i := 15) rfl))) (mvT hZ (hw _ (List.mem_of_getElem? (i := 16) rfl))) (notFace_of_selects (args := #[]) (mvT hZ (hw _ (List.mem_of_getElem? (i := 18) rfl)))) (mvT hZ (hw _ (List.mem_of_getElem? (i := 18) rfl))) (mvT hZ (hw _ (List.mem_of_getElem? (i := 17) rfl))) (by decide) (rm := ({ frames := 0, cells := 0, slots := 0, locals := 0 } : Room)) (Q := fun v h' L => v = some (.int (List.getD cs ii 0)) ∧ L = [] ∧ h' = h0) (StrChars.Road.chN (W := 0) hZ (own_wCh hw) (kI := 4) (hw _ (List.mem_of_getElem? (i := 7) rfl)) E_x V_x C_x A_x (StrChars.Road.codOf (cs := cs) (n := List.length cs) rfl (fun c hc => (hp c hc).2)) (own_up _ hp) (SC.ext O0.2) hcz (SF.ext O0.2) hfm lcs (i := ii) hi (j := (((2 : Int32) - lst) - (1 : Int32))) hij (by decide) (by decide)) q1a q1c (g := (mkF m 13 #[rv x, rv va, iv lst, iv (2 : Int32)] [(.int (((2 : Int32) - lst) - (1 : Int32))), (.ref x)])) rfl (by rw [hml]; rfl) (argsL := [(.int (((2 : Int32) - lst) - (1 : Int32)))]) (rest := []) (lenOf pd__I_C rfl) rfl (by show 2 * 0 + _ ≤ _; exact Nat.le_of_eq rfl) (hb hby d25_13) rfl e0 (by decide) (by decide) (c' := 0) (s' := 0) rfl rfl
  clear q1a q1b q1c kq1 cq1
  have N1 := Fr.app N0 (Fr.nil n0)
  obtain rfl : v1 = some (.int c2) := hv1.trans (congrArg (fun z => some (Value.int z)) hv)
  refine own_st (T' := T1) (g' := (mkF m 16 #[rv x, rv va, iv lst, iv (2 : Int32)] [(.int c2)])) st1 ?_
  clear st1
  refine own_st (T' := T1) (g' := (mkF m 17 #[rv x, rv va, iv lst, iv (2 : Int32)] [(.ref va), (.int c2)])) (fun _ k_ => XS.aloadN X1.here hx rfl (hb hby d25_16) rfl rfl  k_) ?_
  refine own_st (T' := T1) (g' := (mkF m 18 #[rv x, rv va, iv lst, iv (2 : Int32)] [(.int (2 : Int32)), (.ref va), (.int c2)])) (fun _ k_ => XS.iloadN X1.here hx rfl (hb hby d25_17) rfl  k_) ?_
  obtain ⟨cl2, Ar2, q2, S2, N2, H2, G2⟩ := id VA
  have hin2 : ¬ ((2 : Int32) < 0 ∨ cl2.slots.size ≤ ((2 : Int32)).toNatClampNeg) := inb_of S2 ⟨by decide, by decide⟩
  refine own_st (T' := T1) (g' := (mkF m 19 #[rv x, rv va, iv lst, iv (2 : Int32)] [(.int c2), (.int c2)])) (X1.caload hx (j := (2 : Int32)) (v := (.int c2)) (by rw [eq1]; exact Ar2.1) (State.isArrayOf_alike hZ.alike Ar2.2.1) Ar2.2.2 hin2 (H2.at hin2 rfl) (g := (mkF m 18 #[rv x, rv va, iv lst, iv (2 : Int32)] [(.int (2 : Int32)), (.ref va), (.int c2)])) rfl rfl (hb hby d25_18)) ?_
  clear hin2 G2 H2 N2 S2 q2 Ar2 cl2
  refine own_st (T' := T1) (g' := (mkF m 22 #[rv x, rv va, iv lst, iv (2 : Int32)] [])) (fun _ k_ => XS.icmpNo X1.here hx rfl (hb hby d25_19) rfl (teq (rfl : c2 = c2)).2 k_) ?_
  refine own_st (T' := T1) (g' := (mkF m 23 #[rv x, rv va, iv lst, iv (2 : Int32)] [(.int (1 : Int32))])) (fun _ k_ => XS.iconst X1.here hx rfl (hb hby d25_22) k_) ?_
  refine own_st (T' := T1) (g' := (mkF m 27 #[rv x, rv va, iv lst, iv (2 : Int32)] [(.int (1 : Int32))])) (fun _ k_ => XS.goto X1.here hx rfl (pc0 := 23) (pc' := 27) rfl (hb hby d25_23) (by decide) (by decide) k_) ?_
  exact own_retN X1 hx (t := .boolean) hret (by simp) hlk (hb hby d25_27) (by decide) (by decide) ⟨rfl, N1, eq1⟩
theorem ef_at_3 (m : MethodId) (x0 : Addr) (x1 : Addr) (x2 : Int32) (x3 : Int32) : entryFrame m #[(.ref x0), (.ref x1), (.int x2), (.int x3)] 4 = mkF m 0 #[rv x0, rv x1, iv x2, iv x3] [] := by first | (simp [entryFrame, mkF, argsToLocals, Value.category]; done) | rfl
def Q_at_3 (Z : State) (x : Addr) (va : Addr) (lst : Int32) (t : Addr) (kt : ClassId) (cs : List Int32) (ii : Nat) (kc : ClassId) (c0 : Int32) (c1 : Int32) (c2 : Int32) (c3 : Int32) (c4 : Int32) (c5 : Int32) (cz : Int32) (fm : Value) (h0 : Heap) (n0 : Nat) (v : Option Value) (h : Heap) (L : List Loc) : Prop := (v = some (.int (1 : Int32))) ∧ (Fr n0 L) ∧ (h = h0)
set_option maxRecDepth 65536 in
set_option maxHeartbeats 40000000 in
theorem rm_at_3 (l : Launch) (Z : State) (a0 : Array Value) (hw : ∀ d ∈ tables_1, d.before a0 Z = true) (ws : List Jvm.Cond) (x : Addr) (va : Addr) (lst : Int32) (t : Addr) (kt : ClassId) (cs : List Int32) (ii : Nat) (kc : ClassId) (c0 : Int32) (c1 : Int32) (c2 : Int32) (c3 : Int32) (c4 : Int32) (c5 : Int32) (cz : Int32) (fm : Value) (h0 : Heap) (n0 : Nat) (O0 : Old Z n0 h0) (E_x : Exa Z h0 x "java/lang/String") (V_x : Fld Z h0 x "java/lang/String" "value" "[B" (.ref t)) (C_x : Fld Z h0 x "java/lang/String" "coder" "B" (.int (0 : Int32))) (A_x : Arv Z h0 t kt .byte (Int32.ofNat cs.length) ((cs.map StrChars.lo8).map Value.int) (.int (0 : Int32))) (VA : Arv Z h0 va kc .char (6 : Int32) [(.int c0), (.int c1), (.int c2), (.int c3), (.int c4), (.int c5)] (.int (0 : Int32))) (hp : ∀ c ∈ cs, ¬ c < 0 ∧ ¬ (255 : Int32) < c) (lcs : cs.length ≤ 4000) (hgt : lst < (3 : Int32)) (hi : ii < cs.length) (hij : ((3 : Int32) - lst) - (1 : Int32) = Int32.ofNat ii) (hv : cs.getD ii 0 = c3) (SC : Sta Z Z.heap "java/lang/String" "COMPACT_STRINGS" "Z" (.int cz)) (hcz : ¬ cz = (0 : Int32)) (SF : Sta Z Z.heap "jdk/internal/util/Preconditions" "SIOOBE_FORMATTER" "Ljava/util/function/BiFunction;" fm) (hfm : fm.isRef = true) :
    MetFree l own_m25 (head1 (Jvm.Cond.code own_m25 method_3_code 4 (some .boolean) :: ws) ({ frames := 4, cells := 0, slots := 0, locals := 53 } : Room)) (fun ar_ U => ar_ = #[(.ref x), (.ref va), (.int lst), (.int (3 : Int32))] ∧ Z.Warmed39 U.vm ∧ U.heap = h0) (fun _ _ _ _ _ => True) (fun _ U o U' => ∃ v L, o = .returned v ∧ Q_at_3 Z x va lst t kt cs ii kc c0 c1 c2 c3 c4 c5 cz fm h0 n0 v U'.heap L ∧ FrameEnd U o U' L ({ frames := 4, cells := 0, slots := 0, locals := 53 } : Room).cells ({ frames := 4, cells := 0, slots := 0, locals := 53 } : Room).slots) := by
  refine MetFree.of_bodySF (plainFor_of_name pn_4) hisR ?_
  intro p e s m args below meth c s₁ Bd hml0 hP hK
  obtain ⟨rfl, hZ, hh⟩ := hP
  have hx := Bd.exec
  have hby := Bd.bytes
  have hml : c.maxLocals = 4 := hml0
  have hown : s.vm.findClass "com/example/sheafgate/sheafgate/store/SetSpecsLastPartPinLaw" = some m.cls := findClass_of_methodNamed Bd.named
  have hnm := (name_of_methodNamed Bd.named Bd.method).1
  have X0 : Stand p l e ({ frames := 4, cells := 0, slots := 0, locals := 53 } : Room) s m #[(.ref x), (.ref va), (.int lst), (.int (3 : Int32))] below meth c s₁ [] 0 0 := Stand.of_body Bd
  have e0 : s₁.heap = h0 := by rw [← hh, Bd.state]; rfl
  have N0 := Fr.nil n0
  have hret := Bd.returns
  have hlk : meth.locks = false := Bd.notSynchronized
  show own_E p e below s ({ frames := 4, cells := 0, slots := 0, locals := 53 } : Room).cells ({ frames := 4, cells := 0, slots := 0, locals := 53 } : Room).slots (Q_at_3 Z x va lst t kt cs ii kc c0 c1 c2 c3 c4 c5 cz fm h0 n0) s₁ (entryFrame m #[(.ref x), (.ref va), (.int lst), (.int (3 : Int32))] 4)
  rw [ef_at_3 m x va lst (3 : Int32)]
  refine own_st (T' := s₁) (g' := (mkF m 1 #[rv x, rv va, iv lst, iv (3 : Int32)] [(.int (3 : Int32))])) (fun _ k_ => XS.iloadN X0.here hx rfl (hb hby d25_0) rfl  k_) ?_
  refine own_st (T' := s₁) (g' := (mkF m 2 #[rv x, rv va, iv lst, iv (3 : Int32)] [(.int lst), (.int (3 : Int32))])) (fun _ k_ => XS.iloadN X0.here hx rfl (hb hby d25_1) rfl  k_) ?_
  refine own_st (T' := s₁) (g' := (mkF m 7 #[rv x, rv va, iv lst, iv (3 : Int32)] [])) (fun _ k_ => XS.icmpYes X0.here hx rfl (pc0 := 2) (pc' := 7) rfl (hb hby d25_2) rfl (tlt (hgt : lst < (3 : Int32))).2.2.1 (by decide) (by decide) k_) ?_
  refine own_st (T' := s₁) (g' := (mkF m 8 #[rv x, rv va, iv lst, iv (3 : Int32)] [(.ref x)])) (fun _ k_ => XS.aloadN X0.here hx rfl (hb hby d25_7) rfl rfl  k_) ?_
  refine own_st (T' := s₁) (g' := (mkF m 9 #[rv x, rv va, iv lst, iv (3 : Int32)] [(.int (3 : Int32)), (.ref x)])) (fun _ k_ => XS.iloadN X0.here hx rfl (hb hby d25_8) rfl  k_) ?_
  refine own_st (T' := s₁) (g' := (mkF m 10 #[rv x, rv va, iv lst, iv (3 : Int32)] [(.int lst), (.int (3 : Int32)), (.ref x)])) (fun _ k_ => XS.iloadN X0.here hx rfl (hb hby d25_9) rfl  k_) ?_
  refine own_st (T' := s₁) (g' := (mkF m 11 #[rv x, rv va, iv lst, iv (3 : Int32)] [(.int ((3 : Int32) - lst)), (.ref x)])) (fun _ k_ => XS.isub X0.here hx rfl (hb hby d25_10) rfl k_) ?_
  refine own_st (T' := s₁) (g' := (mkF m 12 #[rv x, rv va, iv lst, iv (3 : Int32)] [(.int (1 : Int32)), (.int ((3 : Int32) - lst)), (.ref x)])) (fun _ k_ => XS.iconst X0.here hx rfl (hb hby d25_11) k_) ?_
  refine own_st (T' := s₁) (g' := (mkF m 13 #[rv x, rv va, iv lst, iv (3 : Int32)] [(.int (((3 : Int32) - lst) - (1 : Int32))), (.ref x)])) (fun _ k_ => XS.isub X0.here hx rfl (hb hby d25_12) rfl k_) ?_
  obtain ⟨cq1, kq1, q1a, q1b, q1c⟩ := isOf hZ e0 E_x
  obtain ⟨v1, T1, L1, X1, ⟨hv1, rfl, eq1⟩, st1⟩ := own_callV X0 hx (y := own_m13) (z := own_m13) hown (mvT hZ (hw _ (List.mem_of_getElem? (i := 15) rfl))) (mvT hZ (hw _ (List.mem_of_getElem? (i := 16) rfl))) (notFace_of_selects (args := #[]) (mvT hZ (hw _ (List.mem_of_getElem? (i := 18) rfl)))) (mvT hZ (hw _ (List.mem_of_getElem? (i := 18) rfl))) (mvT hZ (hw _ (List.mem_of_getElem? (i := 17) rfl))) (by decide) (rm := ({ frames := 0, cells := 0, slots := 0, locals := 0 } : Room)) (Q := fun v h' L => v = some (.int (List.getD cs ii 0)) ∧ L = [] ∧ h' = h0) (StrChars.Road.chN (W := 0) hZ (own_wCh hw) (kI := 4) (hw _ (List.mem_of_getElem? (i := 7) rfl)) E_x V_x C_x A_x (StrChars.Road.codOf (cs := cs) (n := List.length cs) rfl (fun c hc => (hp c hc).2)) (own_up _ hp) (SC.ext O0.2) hcz (SF.ext O0.2) hfm lcs (i := ii) hi (j := (((3 : Int32) - lst) - (1 : Int32))) hij (by decide) (by decide)) q1a q1c (g := (mkF m 13 #[rv x, rv va, iv lst, iv (3 : Int32)] [(.int (((3 : Int32) - lst) - (1 : Int32))), (.ref x)])) rfl (by rw [hml]; rfl) (argsL := [(.int (((3 : Int32) - lst) - (1 : Int32)))]) (rest := []) (lenOf pd__I_C rfl) rfl (by show 2 * 0 + _ ≤ _; exact Nat.le_of_eq rfl) (hb hby d25_13) rfl e0 (by decide) (by decide) (c' := 0) (s' := 0) rfl rfl
  clear q1a q1b q1c kq1 cq1
  have N1 := Fr.app N0 (Fr.nil n0)
  obtain rfl : v1 = some (.int c3) := hv1.trans (congrArg (fun z => some (Value.int z)) hv)
  refine own_st (T' := T1) (g' := (mkF m 16 #[rv x, rv va, iv lst, iv (3 : Int32)] [(.int c3)])) st1 ?_
  clear st1
  refine own_st (T' := T1) (g' := (mkF m 17 #[rv x, rv va, iv lst, iv (3 : Int32)] [(.ref va), (.int c3)])) (fun _ k_ => XS.aloadN X1.here hx rfl (hb hby d25_16) rfl rfl  k_) ?_
  refine own_st (T' := T1) (g' := (mkF m 18 #[rv x, rv va, iv lst, iv (3 : Int32)] [(.int (3 : Int32)), (.ref va), (.int c3)])) (fun _ k_ => XS.iloadN X1.here hx rfl (hb hby d25_17) rfl  k_) ?_
  obtain ⟨cl2, Ar2, q2, S2, N2, H2, G2⟩ := id VA
  have hin2 : ¬ ((3 : Int32) < 0 ∨ cl2.slots.size ≤ ((3 : Int32)).toNatClampNeg) := inb_of S2 ⟨by decide, by decide⟩
  refine own_st (T' := T1) (g' := (mkF m 19 #[rv x, rv va, iv lst, iv (3 : Int32)] [(.int c3), (.int c3)])) (X1.caload hx (j := (3 : Int32)) (v := (.int c3)) (by rw [eq1]; exact Ar2.1) (State.isArrayOf_alike hZ.alike Ar2.2.1) Ar2.2.2 hin2 (H2.at hin2 rfl) (g := (mkF m 18 #[rv x, rv va, iv lst, iv (3 : Int32)] [(.int (3 : Int32)), (.ref va), (.int c3)])) rfl rfl (hb hby d25_18)) ?_
  clear hin2 G2 H2 N2 S2 q2 Ar2 cl2
  refine own_st (T' := T1) (g' := (mkF m 22 #[rv x, rv va, iv lst, iv (3 : Int32)] [])) (fun _ k_ => XS.icmpNo X1.here hx rfl (hb hby d25_19) rfl (teq (rfl : c3 = c3)).2 k_) ?_
  refine own_st (T' := T1) (g' := (mkF m 23 #[rv x, rv va, iv lst, iv (3 : Int32)] [(.int (1 : Int32))])) (fun _ k_ => XS.iconst X1.here hx rfl (hb hby d25_22) k_) ?_
  refine own_st (T' := T1) (g' := (mkF m 27 #[rv x, rv va, iv lst, iv (3 : Int32)] [(.int (1 : Int32))])) (fun _ k_ => XS.goto X1.here hx rfl (pc0 := 23) (pc' := 27) rfl (hb hby d25_23) (by decide) (by decide) k_) ?_
  exact own_retN X1 hx (t := .boolean) hret (by simp) hlk (hb hby d25_27) (by decide) (by decide) ⟨rfl, N1, eq1⟩
theorem ef_at_4 (m : MethodId) (x0 : Addr) (x1 : Addr) (x2 : Int32) (x3 : Int32) : entryFrame m #[(.ref x0), (.ref x1), (.int x2), (.int x3)] 4 = mkF m 0 #[rv x0, rv x1, iv x2, iv x3] [] := by first | (simp [entryFrame, mkF, argsToLocals, Value.category]; done) | rfl
def Q_at_4 (Z : State) (x : Addr) (va : Addr) (lst : Int32) (t : Addr) (kt : ClassId) (cs : List Int32) (ii : Nat) (kc : ClassId) (c0 : Int32) (c1 : Int32) (c2 : Int32) (c3 : Int32) (c4 : Int32) (c5 : Int32) (cz : Int32) (fm : Value) (h0 : Heap) (n0 : Nat) (v : Option Value) (h : Heap) (L : List Loc) : Prop := (v = some (.int (1 : Int32))) ∧ (Fr n0 L) ∧ (h = h0)
set_option maxRecDepth 65536 in
set_option maxHeartbeats 40000000 in
theorem rm_at_4 (l : Launch) (Z : State) (a0 : Array Value) (hw : ∀ d ∈ tables_1, d.before a0 Z = true) (ws : List Jvm.Cond) (x : Addr) (va : Addr) (lst : Int32) (t : Addr) (kt : ClassId) (cs : List Int32) (ii : Nat) (kc : ClassId) (c0 : Int32) (c1 : Int32) (c2 : Int32) (c3 : Int32) (c4 : Int32) (c5 : Int32) (cz : Int32) (fm : Value) (h0 : Heap) (n0 : Nat) (O0 : Old Z n0 h0) (E_x : Exa Z h0 x "java/lang/String") (V_x : Fld Z h0 x "java/lang/String" "value" "[B" (.ref t)) (C_x : Fld Z h0 x "java/lang/String" "coder" "B" (.int (0 : Int32))) (A_x : Arv Z h0 t kt .byte (Int32.ofNat cs.length) ((cs.map StrChars.lo8).map Value.int) (.int (0 : Int32))) (VA : Arv Z h0 va kc .char (6 : Int32) [(.int c0), (.int c1), (.int c2), (.int c3), (.int c4), (.int c5)] (.int (0 : Int32))) (hp : ∀ c ∈ cs, ¬ c < 0 ∧ ¬ (255 : Int32) < c) (lcs : cs.length ≤ 4000) (hgt : lst < (4 : Int32)) (hi : ii < cs.length) (hij : ((4 : Int32) - lst) - (1 : Int32) = Int32.ofNat ii) (hv : cs.getD ii 0 = c4) (SC : Sta Z Z.heap "java/lang/String" "COMPACT_STRINGS" "Z" (.int cz)) (hcz : ¬ cz = (0 : Int32)) (SF : Sta Z Z.heap "jdk/internal/util/Preconditions" "SIOOBE_FORMATTER" "Ljava/util/function/BiFunction;" fm) (hfm : fm.isRef = true) :
    MetFree l own_m25 (head1 (Jvm.Cond.code own_m25 method_3_code 4 (some .boolean) :: ws) ({ frames := 4, cells := 0, slots := 0, locals := 53 } : Room)) (fun ar_ U => ar_ = #[(.ref x), (.ref va), (.int lst), (.int (4 : Int32))] ∧ Z.Warmed39 U.vm ∧ U.heap = h0) (fun _ _ _ _ _ => True) (fun _ U o U' => ∃ v L, o = .returned v ∧ Q_at_4 Z x va lst t kt cs ii kc c0 c1 c2 c3 c4 c5 cz fm h0 n0 v U'.heap L ∧ FrameEnd U o U' L ({ frames := 4, cells := 0, slots := 0, locals := 53 } : Room).cells ({ frames := 4, cells := 0, slots := 0, locals := 53 } : Room).slots) := by
  refine MetFree.of_bodySF (plainFor_of_name pn_4) hisR ?_
  intro p e s m args below meth c s₁ Bd hml0 hP hK
  obtain ⟨rfl, hZ, hh⟩ := hP
  have hx := Bd.exec
  have hby := Bd.bytes
  have hml : c.maxLocals = 4 := hml0
  have hown : s.vm.findClass "com/example/sheafgate/sheafgate/store/SetSpecsLastPartPinLaw" = some m.cls := findClass_of_methodNamed Bd.named
  have hnm := (name_of_methodNamed Bd.named Bd.method).1
  have X0 : Stand p l e ({ frames := 4, cells := 0, slots := 0, locals := 53 } : Room) s m #[(.ref x), (.ref va), (.int lst), (.int (4 : Int32))] below meth c s₁ [] 0 0 := Stand.of_body Bd
  have e0 : s₁.heap = h0 := by rw [← hh, Bd.state]; rfl
  have N0 := Fr.nil n0
  have hret := Bd.returns
  have hlk : meth.locks = false := Bd.notSynchronized
  show own_E p e below s ({ frames := 4, cells := 0, slots := 0, locals := 53 } : Room).cells ({ frames := 4, cells := 0, slots := 0, locals := 53 } : Room).slots (Q_at_4 Z x va lst t kt cs ii kc c0 c1 c2 c3 c4 c5 cz fm h0 n0) s₁ (entryFrame m #[(.ref x), (.ref va), (.int lst), (.int (4 : Int32))] 4)
  rw [ef_at_4 m x va lst (4 : Int32)]
  refine own_st (T' := s₁) (g' := (mkF m 1 #[rv x, rv va, iv lst, iv (4 : Int32)] [(.int (4 : Int32))])) (fun _ k_ => XS.iloadN X0.here hx rfl (hb hby d25_0) rfl  k_) ?_
  refine own_st (T' := s₁) (g' := (mkF m 2 #[rv x, rv va, iv lst, iv (4 : Int32)] [(.int lst), (.int (4 : Int32))])) (fun _ k_ => XS.iloadN X0.here hx rfl (hb hby d25_1) rfl  k_) ?_
  refine own_st (T' := s₁) (g' := (mkF m 7 #[rv x, rv va, iv lst, iv (4 : Int32)] [])) (fun _ k_ => XS.icmpYes X0.here hx rfl (pc0 := 2) (pc' := 7) rfl (hb hby d25_2) rfl (tlt (hgt : lst < (4 : Int32))).2.2.1 (by decide) (by decide) k_) ?_
  refine own_st (T' := s₁) (g' := (mkF m 8 #[rv x, rv va, iv lst, iv (4 : Int32)] [(.ref x)])) (fun _ k_ => XS.aloadN X0.here hx rfl (hb hby d25_7) rfl rfl  k_) ?_
  refine own_st (T' := s₁) (g' := (mkF m 9 #[rv x, rv va, iv lst, iv (4 : Int32)] [(.int (4 : Int32)), (.ref x)])) (fun _ k_ => XS.iloadN X0.here hx rfl (hb hby d25_8) rfl  k_) ?_
  refine own_st (T' := s₁) (g' := (mkF m 10 #[rv x, rv va, iv lst, iv (4 : Int32)] [(.int lst), (.int (4 : Int32)), (.ref x)])) (fun _ k_ => XS.iloadN X0.here hx rfl (hb hby d25_9) rfl  k_) ?_
  refine own_st (T' := s₁) (g' := (mkF m 11 #[rv x, rv va, iv lst, iv (4 : Int32)] [(.int ((4 : Int32) - lst)), (.ref x)])) (fun _ k_ => XS.isub X0.here hx rfl (hb hby d25_10) rfl k_) ?_
  refine own_st (T' := s₁) (g' := (mkF m 12 #[rv x, rv va, iv lst, iv (4 : Int32)] [(.int (1 : Int32)), (.int ((4 : Int32) - lst)), (.ref x)])) (fun _ k_ => XS.iconst X0.here hx rfl (hb hby d25_11) k_) ?_
  refine own_st (T' := s₁) (g' := (mkF m 13 #[rv x, rv va, iv lst, iv (4 : Int32)] [(.int (((4 : Int32) - lst) - (1 : Int32))), (.ref x)])) (fun _ k_ => XS.isub X0.here hx rfl (hb hby d25_12) rfl k_) ?_
  obtain ⟨cq1, kq1, q1a, q1b, q1c⟩ := isOf hZ e0 E_x
  obtain ⟨v1, T1, L1, X1, ⟨hv1, rfl, eq1⟩, st1⟩ := own_callV X0 hx (y := own_m13) (z := own_m13) hown (mvT hZ (hw _ (List.mem_of_getElem? (i := 15) rfl))) (mvT hZ (hw _ (List.mem_of_getElem? (i := 16) rfl))) (notFace_of_selects (args := #[]) (mvT hZ (hw _ (List.mem_of_getElem? (i := 18) rfl)))) (mvT hZ (hw _ (List.mem_of_getElem? (i := 18) rfl))) (mvT hZ (hw _ (List.mem_of_getElem? (i := 17) rfl))) (by decide) (rm := ({ frames := 0, cells := 0, slots := 0, locals := 0 } : Room)) (Q := fun v h' L => v = some (.int (List.getD cs ii 0)) ∧ L = [] ∧ h' = h0) (StrChars.Road.chN (W := 0) hZ (own_wCh hw) (kI := 4) (hw _ (List.mem_of_getElem? (i := 7) rfl)) E_x V_x C_x A_x (StrChars.Road.codOf (cs := cs) (n := List.length cs) rfl (fun c hc => (hp c hc).2)) (own_up _ hp) (SC.ext O0.2) hcz (SF.ext O0.2) hfm lcs (i := ii) hi (j := (((4 : Int32) - lst) - (1 : Int32))) hij (by decide) (by decide)) q1a q1c (g := (mkF m 13 #[rv x, rv va, iv lst, iv (4 : Int32)] [(.int (((4 : Int32) - lst) - (1 : Int32))), (.ref x)])) rfl (by rw [hml]; rfl) (argsL := [(.int (((4 : Int32) - lst) - (1 : Int32)))]) (rest := []) (lenOf pd__I_C rfl) rfl (by show 2 * 0 + _ ≤ _; exact Nat.le_of_eq rfl) (hb hby d25_13) rfl e0 (by decide) (by decide) (c' := 0) (s' := 0) rfl rfl
  clear q1a q1b q1c kq1 cq1
  have N1 := Fr.app N0 (Fr.nil n0)
  obtain rfl : v1 = some (.int c4) := hv1.trans (congrArg (fun z => some (Value.int z)) hv)
  refine own_st (T' := T1) (g' := (mkF m 16 #[rv x, rv va, iv lst, iv (4 : Int32)] [(.int c4)])) st1 ?_
  clear st1
  refine own_st (T' := T1) (g' := (mkF m 17 #[rv x, rv va, iv lst, iv (4 : Int32)] [(.ref va), (.int c4)])) (fun _ k_ => XS.aloadN X1.here hx rfl (hb hby d25_16) rfl rfl  k_) ?_
  refine own_st (T' := T1) (g' := (mkF m 18 #[rv x, rv va, iv lst, iv (4 : Int32)] [(.int (4 : Int32)), (.ref va), (.int c4)])) (fun _ k_ => XS.iloadN X1.here hx rfl (hb hby d25_17) rfl  k_) ?_
  obtain ⟨cl2, Ar2, q2, S2, N2, H2, G2⟩ := id VA
  have hin2 : ¬ ((4 : Int32) < 0 ∨ cl2.slots.size ≤ ((4 : Int32)).toNatClampNeg) := inb_of S2 ⟨by decide, by decide⟩
  refine own_st (T' := T1) (g' := (mkF m 19 #[rv x, rv va, iv lst, iv (4 : Int32)] [(.int c4), (.int c4)])) (X1.caload hx (j := (4 : Int32)) (v := (.int c4)) (by rw [eq1]; exact Ar2.1) (State.isArrayOf_alike hZ.alike Ar2.2.1) Ar2.2.2 hin2 (H2.at hin2 rfl) (g := (mkF m 18 #[rv x, rv va, iv lst, iv (4 : Int32)] [(.int (4 : Int32)), (.ref va), (.int c4)])) rfl rfl (hb hby d25_18)) ?_
  clear hin2 G2 H2 N2 S2 q2 Ar2 cl2
  refine own_st (T' := T1) (g' := (mkF m 22 #[rv x, rv va, iv lst, iv (4 : Int32)] [])) (fun _ k_ => XS.icmpNo X1.here hx rfl (hb hby d25_19) rfl (teq (rfl : c4 = c4)).2 k_) ?_
  refine own_st (T' := T1) (g' := (mkF m 23 #[rv x, rv va, iv lst, iv (4 : Int32)] [(.int (1 : Int32))])) (fun _ k_ => XS.iconst X1.here hx rfl (hb hby d25_22) k_) ?_
  refine own_st (T' := T1) (g' := (mkF m 27 #[rv x, rv va, iv lst, iv (4 : Int32)] [(.int (1 : Int32))])) (fun _ k_ => XS.goto X1.here hx rfl (pc0 := 23) (pc' := 27) rfl (hb hby d25_23) (by decide) (by decide) k_) ?_
  exact own_retN X1 hx (t := .boolean) hret (by simp) hlk (hb hby d25_27) (by decide) (by decide) ⟨rfl, N1, eq1⟩
theorem ef_at_5 (m : MethodId) (x0 : Addr) (x1 : Addr) (x2 : Int32) (x3 : Int32) : entryFrame m #[(.ref x0), (.ref x1), (.int x2), (.int x3)] 4 = mkF m 0 #[rv x0, rv x1, iv x2, iv x3] [] := by first | (simp [entryFrame, mkF, argsToLocals, Value.category]; done) | rfl
def Q_at_5 (Z : State) (x : Addr) (va : Addr) (lst : Int32) (t : Addr) (kt : ClassId) (cs : List Int32) (ii : Nat) (kc : ClassId) (c0 : Int32) (c1 : Int32) (c2 : Int32) (c3 : Int32) (c4 : Int32) (c5 : Int32) (cz : Int32) (fm : Value) (h0 : Heap) (n0 : Nat) (v : Option Value) (h : Heap) (L : List Loc) : Prop := (v = some (.int (1 : Int32))) ∧ (Fr n0 L) ∧ (h = h0)
set_option maxRecDepth 65536 in
set_option maxHeartbeats 40000000 in
theorem rm_at_5 (l : Launch) (Z : State) (a0 : Array Value) (hw : ∀ d ∈ tables_1, d.before a0 Z = true) (ws : List Jvm.Cond) (x : Addr) (va : Addr) (lst : Int32) (t : Addr) (kt : ClassId) (cs : List Int32) (ii : Nat) (kc : ClassId) (c0 : Int32) (c1 : Int32) (c2 : Int32) (c3 : Int32) (c4 : Int32) (c5 : Int32) (cz : Int32) (fm : Value) (h0 : Heap) (n0 : Nat) (O0 : Old Z n0 h0) (E_x : Exa Z h0 x "java/lang/String") (V_x : Fld Z h0 x "java/lang/String" "value" "[B" (.ref t)) (C_x : Fld Z h0 x "java/lang/String" "coder" "B" (.int (0 : Int32))) (A_x : Arv Z h0 t kt .byte (Int32.ofNat cs.length) ((cs.map StrChars.lo8).map Value.int) (.int (0 : Int32))) (VA : Arv Z h0 va kc .char (6 : Int32) [(.int c0), (.int c1), (.int c2), (.int c3), (.int c4), (.int c5)] (.int (0 : Int32))) (hp : ∀ c ∈ cs, ¬ c < 0 ∧ ¬ (255 : Int32) < c) (lcs : cs.length ≤ 4000) (hgt : lst < (5 : Int32)) (hi : ii < cs.length) (hij : ((5 : Int32) - lst) - (1 : Int32) = Int32.ofNat ii) (hv : cs.getD ii 0 = c5) (SC : Sta Z Z.heap "java/lang/String" "COMPACT_STRINGS" "Z" (.int cz)) (hcz : ¬ cz = (0 : Int32)) (SF : Sta Z Z.heap "jdk/internal/util/Preconditions" "SIOOBE_FORMATTER" "Ljava/util/function/BiFunction;" fm) (hfm : fm.isRef = true) :
    MetFree l own_m25 (head1 (Jvm.Cond.code own_m25 method_3_code 4 (some .boolean) :: ws) ({ frames := 4, cells := 0, slots := 0, locals := 53 } : Room)) (fun ar_ U => ar_ = #[(.ref x), (.ref va), (.int lst), (.int (5 : Int32))] ∧ Z.Warmed39 U.vm ∧ U.heap = h0) (fun _ _ _ _ _ => True) (fun _ U o U' => ∃ v L, o = .returned v ∧ Q_at_5 Z x va lst t kt cs ii kc c0 c1 c2 c3 c4 c5 cz fm h0 n0 v U'.heap L ∧ FrameEnd U o U' L ({ frames := 4, cells := 0, slots := 0, locals := 53 } : Room).cells ({ frames := 4, cells := 0, slots := 0, locals := 53 } : Room).slots) := by
  refine MetFree.of_bodySF (plainFor_of_name pn_4) hisR ?_
  intro p e s m args below meth c s₁ Bd hml0 hP hK
  obtain ⟨rfl, hZ, hh⟩ := hP
  have hx := Bd.exec
  have hby := Bd.bytes
  have hml : c.maxLocals = 4 := hml0
  have hown : s.vm.findClass "com/example/sheafgate/sheafgate/store/SetSpecsLastPartPinLaw" = some m.cls := findClass_of_methodNamed Bd.named
  have hnm := (name_of_methodNamed Bd.named Bd.method).1
  have X0 : Stand p l e ({ frames := 4, cells := 0, slots := 0, locals := 53 } : Room) s m #[(.ref x), (.ref va), (.int lst), (.int (5 : Int32))] below meth c s₁ [] 0 0 := Stand.of_body Bd
  have e0 : s₁.heap = h0 := by rw [← hh, Bd.state]; rfl
  have N0 := Fr.nil n0
  have hret := Bd.returns
  have hlk : meth.locks = false := Bd.notSynchronized
  show own_E p e below s ({ frames := 4, cells := 0, slots := 0, locals := 53 } : Room).cells ({ frames := 4, cells := 0, slots := 0, locals := 53 } : Room).slots (Q_at_5 Z x va lst t kt cs ii kc c0 c1 c2 c3 c4 c5 cz fm h0 n0) s₁ (entryFrame m #[(.ref x), (.ref va), (.int lst), (.int (5 : Int32))] 4)
  rw [ef_at_5 m x va lst (5 : Int32)]
  refine own_st (T' := s₁) (g' := (mkF m 1 #[rv x, rv va, iv lst, iv (5 : Int32)] [(.int (5 : Int32))])) (fun _ k_ => XS.iloadN X0.here hx rfl (hb hby d25_0) rfl  k_) ?_
  refine own_st (T' := s₁) (g' := (mkF m 2 #[rv x, rv va, iv lst, iv (5 : Int32)] [(.int lst), (.int (5 : Int32))])) (fun _ k_ => XS.iloadN X0.here hx rfl (hb hby d25_1) rfl  k_) ?_
  refine own_st (T' := s₁) (g' := (mkF m 7 #[rv x, rv va, iv lst, iv (5 : Int32)] [])) (fun _ k_ => XS.icmpYes X0.here hx rfl (pc0 := 2) (pc' := 7) rfl (hb hby d25_2) rfl (tlt (hgt : lst < (5 : Int32))).2.2.1 (by decide) (by decide) k_) ?_
  refine own_st (T' := s₁) (g' := (mkF m 8 #[rv x, rv va, iv lst, iv (5 : Int32)] [(.ref x)])) (fun _ k_ => XS.aloadN X0.here hx rfl (hb hby d25_7) rfl rfl  k_) ?_
  refine own_st (T' := s₁) (g' := (mkF m 9 #[rv x, rv va, iv lst, iv (5 : Int32)] [(.int (5 : Int32)), (.ref x)])) (fun _ k_ => XS.iloadN X0.here hx rfl (hb hby d25_8) rfl  k_) ?_
  refine own_st (T' := s₁) (g' := (mkF m 10 #[rv x, rv va, iv lst, iv (5 : Int32)] [(.int lst), (.int (5 : Int32)), (.ref x)])) (fun _ k_ => XS.iloadN X0.here hx rfl (hb hby d25_9) rfl  k_) ?_
  refine own_st (T' := s₁) (g' := (mkF m 11 #[rv x, rv va, iv lst, iv (5 : Int32)] [(.int ((5 : Int32) - lst)), (.ref x)])) (fun _ k_ => XS.isub X0.here hx rfl (hb hby d25_10) rfl k_) ?_
  refine own_st (T' := s₁) (g' := (mkF m 12 #[rv x, rv va, iv lst, iv (5 : Int32)] [(.int (1 : Int32)), (.int ((5 : Int32) - lst)), (.ref x)])) (fun _ k_ => XS.iconst X0.here hx rfl (hb hby d25_11) k_) ?_
  refine own_st (T' := s₁) (g' := (mkF m 13 #[rv x, rv va, iv lst, iv (5 : Int32)] [(.int (((5 : Int32) - lst) - (1 : Int32))), (.ref x)])) (fun _ k_ => XS.isub X0.here hx rfl (hb hby d25_12) rfl k_) ?_
  obtain ⟨cq1, kq1, q1a, q1b, q1c⟩ := isOf hZ e0 E_x
  obtain ⟨v1, T1, L1, X1, ⟨hv1, rfl, eq1⟩, st1⟩ := own_callV X0 hx (y := own_m13) (z := own_m13) hown (mvT hZ (hw _ (List.mem_of_getElem? (i := 15) rfl))) (mvT hZ (hw _ (List.mem_of_getElem? (i := 16) rfl))) (notFace_of_selects (args := #[]) (mvT hZ (hw _ (List.mem_of_getElem? (i := 18) rfl)))) (mvT hZ (hw _ (List.mem_of_getElem? (i := 18) rfl))) (mvT hZ (hw _ (List.mem_of_getElem? (i := 17) rfl))) (by decide) (rm := ({ frames := 0, cells := 0, slots := 0, locals := 0 } : Room)) (Q := fun v h' L => v = some (.int (List.getD cs ii 0)) ∧ L = [] ∧ h' = h0) (StrChars.Road.chN (W := 0) hZ (own_wCh hw) (kI := 4) (hw _ (List.mem_of_getElem? (i := 7) rfl)) E_x V_x C_x A_x (StrChars.Road.codOf (cs := cs) (n := List.length cs) rfl (fun c hc => (hp c hc).2)) (own_up _ hp) (SC.ext O0.2) hcz (SF.ext O0.2) hfm lcs (i := ii) hi (j := (((5 : Int32) - lst) - (1 : Int32))) hij (by decide) (by decide)) q1a q1c (g := (mkF m 13 #[rv x, rv va, iv lst, iv (5 : Int32)] [(.int (((5 : Int32) - lst) - (1 : Int32))), (.ref x)])) rfl (by rw [hml]; rfl) (argsL := [(.int (((5 : Int32) - lst) - (1 : Int32)))]) (rest := []) (lenOf pd__I_C rfl) rfl (by show 2 * 0 + _ ≤ _; exact Nat.le_of_eq rfl) (hb hby d25_13) rfl e0 (by decide) (by decide) (c' := 0) (s' := 0) rfl rfl
  clear q1a q1b q1c kq1 cq1
  have N1 := Fr.app N0 (Fr.nil n0)
  obtain rfl : v1 = some (.int c5) := hv1.trans (congrArg (fun z => some (Value.int z)) hv)
  refine own_st (T' := T1) (g' := (mkF m 16 #[rv x, rv va, iv lst, iv (5 : Int32)] [(.int c5)])) st1 ?_
  clear st1
  refine own_st (T' := T1) (g' := (mkF m 17 #[rv x, rv va, iv lst, iv (5 : Int32)] [(.ref va), (.int c5)])) (fun _ k_ => XS.aloadN X1.here hx rfl (hb hby d25_16) rfl rfl  k_) ?_
  refine own_st (T' := T1) (g' := (mkF m 18 #[rv x, rv va, iv lst, iv (5 : Int32)] [(.int (5 : Int32)), (.ref va), (.int c5)])) (fun _ k_ => XS.iloadN X1.here hx rfl (hb hby d25_17) rfl  k_) ?_
  obtain ⟨cl2, Ar2, q2, S2, N2, H2, G2⟩ := id VA
  have hin2 : ¬ ((5 : Int32) < 0 ∨ cl2.slots.size ≤ ((5 : Int32)).toNatClampNeg) := inb_of S2 ⟨by decide, by decide⟩
  refine own_st (T' := T1) (g' := (mkF m 19 #[rv x, rv va, iv lst, iv (5 : Int32)] [(.int c5), (.int c5)])) (X1.caload hx (j := (5 : Int32)) (v := (.int c5)) (by rw [eq1]; exact Ar2.1) (State.isArrayOf_alike hZ.alike Ar2.2.1) Ar2.2.2 hin2 (H2.at hin2 rfl) (g := (mkF m 18 #[rv x, rv va, iv lst, iv (5 : Int32)] [(.int (5 : Int32)), (.ref va), (.int c5)])) rfl rfl (hb hby d25_18)) ?_
  clear hin2 G2 H2 N2 S2 q2 Ar2 cl2
  refine own_st (T' := T1) (g' := (mkF m 22 #[rv x, rv va, iv lst, iv (5 : Int32)] [])) (fun _ k_ => XS.icmpNo X1.here hx rfl (hb hby d25_19) rfl (teq (rfl : c5 = c5)).2 k_) ?_
  refine own_st (T' := T1) (g' := (mkF m 23 #[rv x, rv va, iv lst, iv (5 : Int32)] [(.int (1 : Int32))])) (fun _ k_ => XS.iconst X1.here hx rfl (hb hby d25_22) k_) ?_
  refine own_st (T' := T1) (g' := (mkF m 27 #[rv x, rv va, iv lst, iv (5 : Int32)] [(.int (1 : Int32))])) (fun _ k_ => XS.goto X1.here hx rfl (pc0 := 23) (pc' := 27) rfl (hb hby d25_23) (by decide) (by decide) k_) ?_
  exact own_retN X1 hx (t := .boolean) hret (by simp) hlk (hb hby d25_27) (by decide) (by decide) ⟨rfl, N1, eq1⟩
theorem own_cR0 : ∀ c ∈ ([] : List Int32), ¬ c < 0 ∧ ¬ (255 : Int32) < c := fun _ q => nomatch q
theorem own_cRS {x : Int32} {r : List Int32} (h : ¬ x < 0 ∧ ¬ (255 : Int32) < x) (q : ∀ c ∈ r, ¬ c < 0 ∧ ¬ (255 : Int32) < c) : ∀ c ∈ x :: r, ¬ c < 0 ∧ ¬ (255 : Int32) < c := fun c m => (List.mem_cons.mp m).elim (fun z => z ▸ h) (q c)
theorem own_b0 {b x : Int32} {P : Prop} (h : (b = 0 ∧ P) ∨ (b = 1 ∧ x = 58)) (q : b = 0) : P := h.elim (fun z => z.2) (fun z => absurd (q.symm.trans z.1) (by decide))
theorem own_b1 {b x : Int32} {P : Prop} (h : (b = 0 ∧ P) ∨ (b = 1 ∧ x = 58)) (q : ¬ b = 0) : x = 58 := h.elim (fun z => absurd z.1 q) (fun z => z.2)
theorem pd___C_V : parseMethodDescriptor "([C)V" = some ⟨[(.array .char)], none⟩ := by decide +kernel
theorem pd__Ljava_lang_String__Ljava_lang_String_ : parseMethodDescriptor "(Ljava/lang/String;)Ljava/lang/String;" = some ⟨[(.object "java/lang/String")], some (.object "java/lang/String")⟩ := by decide +kernel
theorem pd__Ljava_lang_String__CII_Z : parseMethodDescriptor "(Ljava/lang/String;[CII)Z" = some ⟨[(.object "java/lang/String"), (.array .char), .int, .int], some .boolean⟩ := by decide +kernel
set_option maxRecDepth 65536 in
set_option maxHeartbeats 40000000 in
theorem seg_tm {p : Program} {l : Launch} {e : Env} {s : State} {m : MethodId} {args : Array Value} {below : List Frame} {meth : Method} {c : Code} {T0 : State} {locs : List Loc} {Z : State} {a0 : Array Value} {vm0 : Vm} {k0 : Nat} (h0 : Heap) (hB : Heap) (n0 : Nat) (shape : Int32) (pp : Int64) (pat : Int32) (va : Addr) (kc : ClassId) (b_1 : Int32) (b_2 : Int32) (b_3 : Int32) (b_4 : Int32) (c0 : Int32) (c1 : Int32) (c2 : Int32) (c3 : Int32) (c4 : Int32) (c5 : Int32) (cz : Int32) (fm : Value)
    (X0 : Stand p l e room_1 (s.setVm vm0) m args below meth c T0 locs 3 294) (hx : p.tables.exec = Jvm.exec) (hZs : Z.Warmed39 s.vm) (hZ : Z.Warmed39 (s.setVm vm0).vm) (hS0 : s.Since vm0 k0) (hk0 : k0 ≤ hB.size) (CR0 : CHr Z consts_1 s.vm h0 vm0 hB) (hw : ∀ d ∈ tables_1, d.before a0 Z = true) (hby : c.code = code) (hml : c.maxLocals = 11) (howns : s.vm.findClass "com/example/sheafgate/sheafgate/store/SetSpecsLastPartPinLaw" = some m.cls) (hown : (s.setVm vm0).vm.findClass "com/example/sheafgate/sheafgate/store/SetSpecsLastPartPinLaw" = some m.cls) (hnm : meth.name = "law") (hret : meth.sig.returnType = some .boolean) (hlk : meth.locks = false) (e0 : T0.heap = hB) (N0 : Fr n0 locs) (O0 : Old Z n0 hB) (hr0 : ¬ c0 < 0 ∧ ¬ (255 : Int32) < c0) (hr1 : ¬ c1 < 0 ∧ ¬ (255 : Int32) < c1) (hr2 : ¬ c2 < 0 ∧ ¬ (255 : Int32) < c2) (hr3 : ¬ c3 < 0 ∧ ¬ (255 : Int32) < c3) (hr4 : ¬ c4 < 0 ∧ ¬ (255 : Int32) < c4) (hr5 : ¬ c5 < 0 ∧ ¬ (255 : Int32) < c5) (hn0 : ¬ (c0.toInt8.toInt32) = ((58 : Int32).toInt8.toInt32)) (hn1 : ¬ (c1.toInt8.toInt32) = ((58 : Int32).toInt8.toInt32)) (hn2 : ¬ (c2.toInt8.toInt32) = ((58 : Int32).toInt8.toInt32)) (hn3 : ¬ (c3.toInt8.toInt32) = ((58 : Int32).toInt8.toInt32)) (hn4 : ¬ (c4.toInt8.toInt32) = ((58 : Int32).toInt8.toInt32)) (hn5 : ¬ (c5.toInt8.toInt32) = ((58 : Int32).toInt8.toInt32)) (VA : Arv Z hB va kc .char (6 : Int32) [(.int c0), (.int c1), (.int c2), (.int c3), (.int c4), (.int c5)] (.int (0 : Int32))) (SC : Sta Z Z.heap "java/lang/String" "COMPACT_STRINGS" "Z" (.int cz)) (hcz : ¬ cz = (0 : Int32)) (SF : Sta Z Z.heap "jdk/internal/util/Preconditions" "SIOOBE_FORMATTER" "Ljava/util/function/BiFunction;" fm) (hfm : fm.isRef = true) :
    own_W p e below s room_1.cells room_1.slots Z consts_1 h0 (own_L n0) T0 (mkF m 235 #[iv shape, .val (.long pp), .second, iv pat, rv va, iv b_1, iv b_2, iv b_3, iv b_4, iv (-1 : Int32), .unset] []) := by
  have hEL := own_EW hw
  obtain ⟨T1, h1, X1, e1, E1, A1, D1, -, st1⟩ := newO X0 hx hZ hown (hw _ (List.mem_of_getElem? (i := 40) rfl)) (hw _ (List.mem_of_getElem? (i := 7) rfl)) (hw _ (List.mem_of_getElem? (i := 6) rfl)) e0 (g := (mkF m 235 #[iv shape, .val (.long pp), .second, iv pat, rv va, iv b_1, iv b_2, iv b_3, iv b_4, iv (-1 : Int32), .unset] [])) rfl (hb hby at_235) (by decide) (by decide)
  obtain ⟨b1, g1⟩ : ∃ z, z = hB.size := ⟨_, rfl⟩
  rw [← g1] at A1 D1 st1
  have fr1 : n0 ≤ b1 := Nat.le_trans (own_z O0) (Nat.le_of_eq g1.symm)
  have CR2 : CHr Z consts_1 s.vm h0 vm0 h1 := CR0.trans (CHr.ext E1 CR0.1)
  have sf3 : Safe Z consts_1 vm0 h1 b1 := Safe.ext E1 CR0.1 (Safe.new (Nat.le_of_eq g1.symm))
  have F1_value : Fld Z h1 b1 "java/lang/String" "value" "[B" .null := D1 (Or.inr (hw _ (List.mem_of_getElem? (i := 9) rfl))) (ty := (.array .byte)) (by decide)
  have F1_coder : Fld Z h1 b1 "java/lang/String" "coder" "B" (.int (0 : Int32)) := D1 (Or.inr (hw _ (List.mem_of_getElem? (i := 10) rfl))) (ty := .byte) (by decide)
  refine own_stW (T' := T1) (g' := (mkF m 238 #[iv shape, .val (.long pp), .second, iv pat, rv va, iv b_1, iv b_2, iv b_3, iv b_4, iv (-1 : Int32), .unset] [(.ref b1)])) st1 ?_
  clear st1
  refine own_stW (T' := T1) (g' := (mkF m 239 #[iv shape, .val (.long pp), .second, iv pat, rv va, iv b_1, iv b_2, iv b_3, iv b_4, iv (-1 : Int32), .unset] [(.ref b1), (.ref b1)])) (fun _ k_ => XS.dup X1.here hx rfl (hb hby at_238) rfl rfl k_) ?_
  refine own_stW (T' := T1) (g' := (mkF m 241 #[iv shape, .val (.long pp), .second, iv pat, rv va, iv b_1, iv b_2, iv b_3, iv b_4, iv (-1 : Int32), .unset] [(.ref va), (.ref b1), (.ref b1)])) (fun _ k_ => XS.aload X1.here hx rfl (hb hby at_239) rfl rfl  k_) ?_
  have f4 : Arv Z h1 va kc .char (6 : Int32) [(.int c0), (.int c1), (.int c2), (.int c3), (.int c4), (.int c5)] (.int (0 : Int32)) := VA.ext E1
  have f5 : Old Z n0 h1 := O0.ext E1
  obtain ⟨_, T6, L6, X6, hQ6, st6⟩ := own_callI X1 hx (y := own_m4) rfl hown (mvT hZ (hw _ (List.mem_of_getElem? (i := 41) rfl))) (mvT hZ (hw _ (List.mem_of_getElem? (i := 42) rfl))) (mvT hZ (hw _ (List.mem_of_getElem? (i := 43) rfl))) (by decide) (backOf (W := 1) (rm_ini1_6 l Z a0 hw [] b1 va kc cz c0 c1 c2 c3 c4 c5 h1 n0 f5 A1 F1_value F1_coder fr1 f4 SC hcz hr0.2 hr1.2 hr2.2 hr3.2 hr4.2 hr5.2) hZ (hw _ (List.mem_of_getElem? (i := 43) rfl)) (hw _ (List.mem_of_getElem? (i := 6) rfl)) (by decide) (by decide)) (g := (mkF m 241 #[iv shape, .val (.long pp), .second, iv pat, rv va, iv b_1, iv b_2, iv b_3, iv b_4, iv (-1 : Int32), .unset] [(.ref va), (.ref b1), (.ref b1)])) rfl (by rw [hml]; rfl) (a := b1) (argsL := [(.ref va)]) (rest := [(.ref b1)]) (lenOf pd___C_V rfl) rfl (by show 2 * 0 + _ ≤ _; exact Nat.le_of_eq rfl) (hb hby at_241) rfl e1 (by decide) (by decide) (c' := 5) (s' := 304) rfl rfl
  obtain ⟨t6, kb6, rfl, Nq6, K6, fq6_0, fq6_1, fq6_2, fq6_3, xq6_fresh_t⟩ := hQ6
  have N6 := Fr.app N0 Nq6
  have CR7 : CHr Z consts_1 s.vm h0 vm0 T6.heap := CR2.trans (CHr.keep K6 (sfS sf3 sf0) CR2.1)
  have sf8 : Safe Z consts_1 vm0 T6.heap b1 := Safe.keep K6 (sfS sf3 sf0) CR2.1 sf3
  refine own_stW (T' := T6) (g' := (mkF m 244 #[iv shape, .val (.long pp), .second, iv pat, rv va, iv b_1, iv b_2, iv b_3, iv b_4, iv (-1 : Int32), .unset] [(.ref b1)])) st6 ?_
  clear st6
  have f9 : Old Z n0 T6.heap := f5.keep K6 (allS fr1 all0)
  obtain ⟨_, T10, L10, X10, hQ10, st10⟩ := own_callS X6 hx (y := own_m21) hown (mvT hZ (hw _ (List.mem_of_getElem? (i := 61) rfl))) (mvT hZ (hw _ (List.mem_of_getElem? (i := 62) rfl))) (mvT hZ (hw _ (List.mem_of_getElem? (i := 63) rfl))) (mvT hZ (hw _ (List.mem_of_getElem? (i := 64) rfl))) (by decide) (backOf (W := 0) (rm_lp_m l Z a0 hw [] b1 t6 kb6 c0 c1 c2 c3 c4 c5 cz fm T6.heap n0 f9 fq6_0 fq6_2 fq6_1 fq6_3 hn0 hn1 hn2 hn3 hn4 hn5 SC hcz SF hfm) hZ (hw _ (List.mem_of_getElem? (i := 64) rfl)) (hw _ (List.mem_of_getElem? (i := 63) rfl)) (by decide) (by decide)) (g := (mkF m 244 #[iv shape, .val (.long pp), .second, iv pat, rv va, iv b_1, iv b_2, iv b_3, iv b_4, iv (-1 : Int32), .unset] [(.ref b1)])) rfl (by rw [hml]; rfl) (argsL := [(.ref b1)]) (rest := []) (lenOf pd__Ljava_lang_String__Ljava_lang_String_ rfl) rfl (by show 2 * 0 + _ ≤ _; exact Nat.le_of_eq rfl) (hb hby at_244) rfl rfl (by decide) (by decide) (c' := 5) (s' := 304) rfl rfl
  obtain ⟨rfl, Nq10, eq10⟩ := hQ10
  have N10 := Fr.app N6 Nq10
  refine own_stW (T' := T10) (g' := (mkF m 247 #[iv shape, .val (.long pp), .second, iv pat, rv va, iv b_1, iv b_2, iv b_3, iv b_4, iv (-1 : Int32), .unset] [(.ref b1)])) st10 ?_
  clear st10
  refine own_stW (T' := T10) (g' := (mkF m 249 #[iv shape, .val (.long pp), .second, iv pat, rv va, iv b_1, iv b_2, iv b_3, iv b_4, iv (-1 : Int32), rv b1] [])) (fun _ k_ => XS.astore X10.here hx rfl (hb hby at_247) rfl rfl (l' := #[iv shape, .val (.long pp), .second, iv pat, rv va, iv b_1, iv b_2, iv b_3, iv b_4, iv (-1 : Int32), rv b1]) rfl k_) ?_
  refine own_stW (T' := T10) (g' := (mkF m 251 #[iv shape, .val (.long pp), .second, iv pat, rv va, iv b_1, iv b_2, iv b_3, iv b_4, iv (-1 : Int32), rv b1] [(.ref b1)])) (fun _ k_ => XS.aload X10.here hx rfl (hb hby at_249) rfl rfl  k_) ?_
  obtain ⟨cq11, kq11, q11a, q11b, q11c⟩ := isOf hZ eq10 fq6_0
  obtain ⟨_, T11, L11, X11, hQ11, st11⟩ := own_callV X10 hx (y := own_m6) (z := own_m6) hown (mvT hZ (hw _ (List.mem_of_getElem? (i := 111) rfl))) (mvT hZ (hw _ (List.mem_of_getElem? (i := 71) rfl))) (notFace_of_selects (args := #[]) (mvT hZ (hw _ (List.mem_of_getElem? (i := 73) rfl)))) (mvT hZ (hw _ (List.mem_of_getElem? (i := 73) rfl))) (mvT hZ (hw _ (List.mem_of_getElem? (i := 72) rfl))) (by decide) (backOf (W := 0) (rm_len l Z a0 hw [] b1 t6 kb6 (6 : Int32) [(.int (c0.toInt8.toInt32)), (.int (c1.toInt8.toInt32)), (.int (c2.toInt8.toInt32)), (.int (c3.toInt8.toInt32)), (.int (c4.toInt8.toInt32)), (.int (c5.toInt8.toInt32))] cz T6.heap n0 f9 fq6_0 fq6_2 fq6_1 fq6_3 SC hcz) hZ (hw _ (List.mem_of_getElem? (i := 74) rfl)) (hw _ (List.mem_of_getElem? (i := 6) rfl)) (by decide) (by decide)) q11a q11c (g := (mkF m 251 #[iv shape, .val (.long pp), .second, iv pat, rv va, iv b_1, iv b_2, iv b_3, iv b_4, iv (-1 : Int32), rv b1] [(.ref b1)])) rfl (by rw [hml]; rfl) (argsL := []) (rest := []) (lenOf pd___I rfl) rfl (by show 2 * 0 + _ ≤ _; exact Nat.le_of_eq rfl) (hb hby at_251) rfl eq10 (by decide) (by decide) (c' := 5) (s' := 304) rfl rfl
  clear q11a q11b q11c kq11 cq11
  obtain ⟨rfl, Nq11, eq11⟩ := hQ11
  have N11 := Fr.app N10 Nq11
  refine own_stW (T' := T11) (g' := (mkF m 254 #[iv shape, .val (.long pp), .second, iv pat, rv va, iv b_1, iv b_2, iv b_3, iv b_4, iv (-1 : Int32), rv b1] [(.int (6 : Int32))])) st11 ?_
  clear st11
  refine own_stW (T' := T11) (g' := (mkF m 255 #[iv shape, .val (.long pp), .second, iv pat, rv va, iv b_1, iv b_2, iv b_3, iv b_4, iv (-1 : Int32), rv b1] [(.int (5 : Int32)), (.int (6 : Int32))])) (fun _ k_ => XS.iconst X11.here hx rfl (hb hby at_254) k_) ?_
  refine own_stW (T' := T11) (g' := (mkF m 257 #[iv shape, .val (.long pp), .second, iv pat, rv va, iv b_1, iv b_2, iv b_3, iv b_4, iv (-1 : Int32), rv b1] [(.int (-1 : Int32)), (.int (5 : Int32)), (.int (6 : Int32))])) (fun _ k_ => XS.iload X11.here hx rfl (hb hby at_255) rfl  k_) ?_
  refine own_stW (T' := T11) (g' := (mkF m 258 #[iv shape, .val (.long pp), .second, iv pat, rv va, iv b_1, iv b_2, iv b_3, iv b_4, iv (-1 : Int32), rv b1] [(.int (6 : Int32)), (.int (6 : Int32))])) (fun _ k_ => XS.isub X11.here hx rfl (hb hby at_257) rfl k_) ?_
  refine own_stW (T' := T11) (g' := (mkF m 263 #[iv shape, .val (.long pp), .second, iv pat, rv va, iv b_1, iv b_2, iv b_3, iv b_4, iv (-1 : Int32), rv b1] [])) (fun _ k_ => XS.icmpYes X11.here hx rfl (pc0 := 258) (pc' := 263) rfl (hb hby at_258) rfl (teq (rfl : (6 : Int32) = (6 : Int32))).1 (by decide) (by decide) k_) ?_
  refine own_stW (T' := T11) (g' := (mkF m 265 #[iv shape, .val (.long pp), .second, iv pat, rv va, iv b_1, iv b_2, iv b_3, iv b_4, iv (-1 : Int32), rv b1] [(.ref b1)])) (fun _ k_ => XS.aload X11.here hx rfl (hb hby at_263) rfl rfl  k_) ?_
  refine own_stW (T' := T11) (g' := (mkF m 267 #[iv shape, .val (.long pp), .second, iv pat, rv va, iv b_1, iv b_2, iv b_3, iv b_4, iv (-1 : Int32), rv b1] [(.ref va), (.ref b1)])) (fun _ k_ => XS.aload X11.here hx rfl (hb hby at_265) rfl rfl  k_) ?_
  refine own_stW (T' := T11) (g' := (mkF m 269 #[iv shape, .val (.long pp), .second, iv pat, rv va, iv b_1, iv b_2, iv b_3, iv b_4, iv (-1 : Int32), rv b1] [(.int (-1 : Int32)), (.ref va), (.ref b1)])) (fun _ k_ => XS.iload X11.here hx rfl (hb hby at_267) rfl  k_) ?_
  refine own_stW (T' := T11) (g' := (mkF m 270 #[iv shape, .val (.long pp), .second, iv pat, rv va, iv b_1, iv b_2, iv b_3, iv b_4, iv (-1 : Int32), rv b1] [(.int (0 : Int32)), (.int (-1 : Int32)), (.ref va), (.ref b1)])) (fun _ k_ => XS.iconst X11.here hx rfl (hb hby at_269) k_) ?_
  have ne12 : va ≠ b1 := Nat.ne_of_lt (Nat.lt_of_lt_of_le VA.lt (Nat.le_of_eq g1.symm))
  have f13 : Arv Z T6.heap va kc .char (6 : Int32) [(.int c0), (.int c1), (.int c2), (.int c3), (.int c4), (.int c5)] (.int (0 : Int32)) := f4.keep K6 (ninS ne12 nin0)
  obtain ⟨_, T14, L14, X14, hQ14, st14⟩ := own_callS X11 hx (y := own_m25) hown (mvT hZ (hw _ (List.mem_of_getElem? (i := 112) rfl))) (mvT hZ (hw _ (List.mem_of_getElem? (i := 113) rfl))) (mvT hZ (hw _ (List.mem_of_getElem? (i := 3) rfl))) (mvT hZ (hw _ (List.mem_of_getElem? (i := 114) rfl))) (by decide) (backOf (W := 0) (rm_at_0 l Z a0 hw [] b1 va (-1 : Int32) t6 kb6 ([c0, c1, c2, c3, c4, c5] : List Int32) 0 kc c0 c1 c2 c3 c4 c5 cz fm T6.heap n0 f9 fq6_0 fq6_2 fq6_1 fq6_3 f13 (own_cRS hr0 (own_cRS hr1 (own_cRS hr2 (own_cRS hr3 (own_cRS hr4 (own_cRS hr5 own_cR0)))))) (Nat.le_of_ble_eq_true rfl) (by decide) (Nat.le_of_ble_eq_true rfl) (by decide) rfl SC hcz SF hfm) hZ (hw _ (List.mem_of_getElem? (i := 114) rfl)) (hw _ (List.mem_of_getElem? (i := 3) rfl)) (by decide) (by decide)) (g := (mkF m 270 #[iv shape, .val (.long pp), .second, iv pat, rv va, iv b_1, iv b_2, iv b_3, iv b_4, iv (-1 : Int32), rv b1] [(.int (0 : Int32)), (.int (-1 : Int32)), (.ref va), (.ref b1)])) rfl (by rw [hml]; rfl) (argsL := [(.ref b1), (.ref va), (.int (-1 : Int32)), (.int (0 : Int32))]) (rest := []) (lenOf pd__Ljava_lang_String__CII_Z rfl) rfl (by show 2 * 0 + _ ≤ _; exact Nat.le_of_eq rfl) (hb hby at_270) rfl eq11 (by decide) (by decide) (c' := 5) (s' := 304) rfl rfl
  obtain ⟨rfl, Nq14, eq14⟩ := hQ14
  have N14 := Fr.app N11 Nq14
  refine own_stW (T' := T14) (g' := (mkF m 273 #[iv shape, .val (.long pp), .second, iv pat, rv va, iv b_1, iv b_2, iv b_3, iv b_4, iv (-1 : Int32), rv b1] [(.int (1 : Int32))])) st14 ?_
  clear st14
  refine own_stW (T' := T14) (g' := (mkF m 276 #[iv shape, .val (.long pp), .second, iv pat, rv va, iv b_1, iv b_2, iv b_3, iv b_4, iv (-1 : Int32), rv b1] [])) (fun _ k_ => XS.ifNo X14.here hx rfl (hb hby at_273) rfl ((if0 _ _).trans (feq (by decide : ¬ ((1 : Int32) = (0 : Int32)))).1) k_) ?_
  refine own_stW (T' := T14) (g' := (mkF m 278 #[iv shape, .val (.long pp), .second, iv pat, rv va, iv b_1, iv b_2, iv b_3, iv b_4, iv (-1 : Int32), rv b1] [(.ref b1)])) (fun _ k_ => XS.aload X14.here hx rfl (hb hby at_276) rfl rfl  k_) ?_
  refine own_stW (T' := T14) (g' := (mkF m 280 #[iv shape, .val (.long pp), .second, iv pat, rv va, iv b_1, iv b_2, iv b_3, iv b_4, iv (-1 : Int32), rv b1] [(.ref va), (.ref b1)])) (fun _ k_ => XS.aload X14.here hx rfl (hb hby at_278) rfl rfl  k_) ?_
  refine own_stW (T' := T14) (g' := (mkF m 282 #[iv shape, .val (.long pp), .second, iv pat, rv va, iv b_1, iv b_2, iv b_3, iv b_4, iv (-1 : Int32), rv b1] [(.int (-1 : Int32)), (.ref va), (.ref b1)])) (fun _ k_ => XS.iload X14.here hx rfl (hb hby at_280) rfl  k_) ?_
  refine own_stW (T' := T14) (g' := (mkF m 283 #[iv shape, .val (.long pp), .second, iv pat, rv va, iv b_1, iv b_2, iv b_3, iv b_4, iv (-1 : Int32), rv b1] [(.int (1 : Int32)), (.int (-1 : Int32)), (.ref va), (.ref b1)])) (fun _ k_ => XS.iconst X14.here hx rfl (hb hby at_282) k_) ?_
  obtain ⟨_, T15, L15, X15, hQ15, st15⟩ := own_callS X14 hx (y := own_m25) hown (mvT hZ (hw _ (List.mem_of_getElem? (i := 112) rfl))) (mvT hZ (hw _ (List.mem_of_getElem? (i := 113) rfl))) (mvT hZ (hw _ (List.mem_of_getElem? (i := 3) rfl))) (mvT hZ (hw _ (List.mem_of_getElem? (i := 114) rfl))) (by decide) (backOf (W := 0) (rm_at_1 l Z a0 hw [] b1 va (-1 : Int32) t6 kb6 ([c0, c1, c2, c3, c4, c5] : List Int32) 1 kc c0 c1 c2 c3 c4 c5 cz fm T6.heap n0 f9 fq6_0 fq6_2 fq6_1 fq6_3 f13 (own_cRS hr0 (own_cRS hr1 (own_cRS hr2 (own_cRS hr3 (own_cRS hr4 (own_cRS hr5 own_cR0)))))) (Nat.le_of_ble_eq_true rfl) (by decide) (Nat.le_of_ble_eq_true rfl) (by decide) rfl SC hcz SF hfm) hZ (hw _ (List.mem_of_getElem? (i := 114) rfl)) (hw _ (List.mem_of_getElem? (i := 3) rfl)) (by decide) (by decide)) (g := (mkF m 283 #[iv shape, .val (.long pp), .second, iv pat, rv va, iv b_1, iv b_2, iv b_3, iv b_4, iv (-1 : Int32), rv b1] [(.int (1 : Int32)), (.int (-1 : Int32)), (.ref va), (.ref b1)])) rfl (by rw [hml]; rfl) (argsL := [(.ref b1), (.ref va), (.int (-1 : Int32)), (.int (1 : Int32))]) (rest := []) (lenOf pd__Ljava_lang_String__CII_Z rfl) rfl (by show 2 * 0 + _ ≤ _; exact Nat.le_of_eq rfl) (hb hby at_283) rfl eq14 (by decide) (by decide) (c' := 5) (s' := 304) rfl rfl
  obtain ⟨rfl, Nq15, eq15⟩ := hQ15
  have N15 := Fr.app N14 Nq15
  refine own_stW (T' := T15) (g' := (mkF m 286 #[iv shape, .val (.long pp), .second, iv pat, rv va, iv b_1, iv b_2, iv b_3, iv b_4, iv (-1 : Int32), rv b1] [(.int (1 : Int32))])) st15 ?_
  clear st15
  refine own_stW (T' := T15) (g' := (mkF m 289 #[iv shape, .val (.long pp), .second, iv pat, rv va, iv b_1, iv b_2, iv b_3, iv b_4, iv (-1 : Int32), rv b1] [])) (fun _ k_ => XS.ifNo X15.here hx rfl (hb hby at_286) rfl ((if0 _ _).trans (feq (by decide : ¬ ((1 : Int32) = (0 : Int32)))).1) k_) ?_
  refine own_stW (T' := T15) (g' := (mkF m 291 #[iv shape, .val (.long pp), .second, iv pat, rv va, iv b_1, iv b_2, iv b_3, iv b_4, iv (-1 : Int32), rv b1] [(.ref b1)])) (fun _ k_ => XS.aload X15.here hx rfl (hb hby at_289) rfl rfl  k_) ?_
  refine own_stW (T' := T15) (g' := (mkF m 293 #[iv shape, .val (.long pp), .second, iv pat, rv va, iv b_1, iv b_2, iv b_3, iv b_4, iv (-1 : Int32), rv b1] [(.ref va), (.ref b1)])) (fun _ k_ => XS.aload X15.here hx rfl (hb hby at_291) rfl rfl  k_) ?_
  refine own_stW (T' := T15) (g' := (mkF m 295 #[iv shape, .val (.long pp), .second, iv pat, rv va, iv b_1, iv b_2, iv b_3, iv b_4, iv (-1 : Int32), rv b1] [(.int (-1 : Int32)), (.ref va), (.ref b1)])) (fun _ k_ => XS.iload X15.here hx rfl (hb hby at_293) rfl  k_) ?_
  refine own_stW (T' := T15) (g' := (mkF m 296 #[iv shape, .val (.long pp), .second, iv pat, rv va, iv b_1, iv b_2, iv b_3, iv b_4, iv (-1 : Int32), rv b1] [(.int (2 : Int32)), (.int (-1 : Int32)), (.ref va), (.ref b1)])) (fun _ k_ => XS.iconst X15.here hx rfl (hb hby at_295) k_) ?_
  obtain ⟨_, T16, L16, X16, hQ16, st16⟩ := own_callS X15 hx (y := own_m25) hown (mvT hZ (hw _ (List.mem_of_getElem? (i := 112) rfl))) (mvT hZ (hw _ (List.mem_of_getElem? (i := 113) rfl))) (mvT hZ (hw _ (List.mem_of_getElem? (i := 3) rfl))) (mvT hZ (hw _ (List.mem_of_getElem? (i := 114) rfl))) (by decide) (backOf (W := 0) (rm_at_2 l Z a0 hw [] b1 va (-1 : Int32) t6 kb6 ([c0, c1, c2, c3, c4, c5] : List Int32) 2 kc c0 c1 c2 c3 c4 c5 cz fm T6.heap n0 f9 fq6_0 fq6_2 fq6_1 fq6_3 f13 (own_cRS hr0 (own_cRS hr1 (own_cRS hr2 (own_cRS hr3 (own_cRS hr4 (own_cRS hr5 own_cR0)))))) (Nat.le_of_ble_eq_true rfl) (by decide) (Nat.le_of_ble_eq_true rfl) (by decide) rfl SC hcz SF hfm) hZ (hw _ (List.mem_of_getElem? (i := 114) rfl)) (hw _ (List.mem_of_getElem? (i := 3) rfl)) (by decide) (by decide)) (g := (mkF m 296 #[iv shape, .val (.long pp), .second, iv pat, rv va, iv b_1, iv b_2, iv b_3, iv b_4, iv (-1 : Int32), rv b1] [(.int (2 : Int32)), (.int (-1 : Int32)), (.ref va), (.ref b1)])) rfl (by rw [hml]; rfl) (argsL := [(.ref b1), (.ref va), (.int (-1 : Int32)), (.int (2 : Int32))]) (rest := []) (lenOf pd__Ljava_lang_String__CII_Z rfl) rfl (by show 2 * 0 + _ ≤ _; exact Nat.le_of_eq rfl) (hb hby at_296) rfl eq15 (by decide) (by decide) (c' := 5) (s' := 304) rfl rfl
  obtain ⟨rfl, Nq16, eq16⟩ := hQ16
  have N16 := Fr.app N15 Nq16
  refine own_stW (T' := T16) (g' := (mkF m 299 #[iv shape, .val (.long pp), .second, iv pat, rv va, iv b_1, iv b_2, iv b_3, iv b_4, iv (-1 : Int32), rv b1] [(.int (1 : Int32))])) st16 ?_
  clear st16
  refine own_stW (T' := T16) (g' := (mkF m 302 #[iv shape, .val (.long pp), .second, iv pat, rv va, iv b_1, iv b_2, iv b_3, iv b_4, iv (-1 : Int32), rv b1] [])) (fun _ k_ => XS.ifNo X16.here hx rfl (hb hby at_299) rfl ((if0 _ _).trans (feq (by decide : ¬ ((1 : Int32) = (0 : Int32)))).1) k_) ?_
  refine own_stW (T' := T16) (g' := (mkF m 304 #[iv shape, .val (.long pp), .second, iv pat, rv va, iv b_1, iv b_2, iv b_3, iv b_4, iv (-1 : Int32), rv b1] [(.ref b1)])) (fun _ k_ => XS.aload X16.here hx rfl (hb hby at_302) rfl rfl  k_) ?_
  refine own_stW (T' := T16) (g' := (mkF m 306 #[iv shape, .val (.long pp), .second, iv pat, rv va, iv b_1, iv b_2, iv b_3, iv b_4, iv (-1 : Int32), rv b1] [(.ref va), (.ref b1)])) (fun _ k_ => XS.aload X16.here hx rfl (hb hby at_304) rfl rfl  k_) ?_
  refine own_stW (T' := T16) (g' := (mkF m 308 #[iv shape, .val (.long pp), .second, iv pat, rv va, iv b_1, iv b_2, iv b_3, iv b_4, iv (-1 : Int32), rv b1] [(.int (-1 : Int32)), (.ref va), (.ref b1)])) (fun _ k_ => XS.iload X16.here hx rfl (hb hby at_306) rfl  k_) ?_
  refine own_stW (T' := T16) (g' := (mkF m 309 #[iv shape, .val (.long pp), .second, iv pat, rv va, iv b_1, iv b_2, iv b_3, iv b_4, iv (-1 : Int32), rv b1] [(.int (3 : Int32)), (.int (-1 : Int32)), (.ref va), (.ref b1)])) (fun _ k_ => XS.iconst X16.here hx rfl (hb hby at_308) k_) ?_
  obtain ⟨_, T17, L17, X17, hQ17, st17⟩ := own_callS X16 hx (y := own_m25) hown (mvT hZ (hw _ (List.mem_of_getElem? (i := 112) rfl))) (mvT hZ (hw _ (List.mem_of_getElem? (i := 113) rfl))) (mvT hZ (hw _ (List.mem_of_getElem? (i := 3) rfl))) (mvT hZ (hw _ (List.mem_of_getElem? (i := 114) rfl))) (by decide) (backOf (W := 0) (rm_at_3 l Z a0 hw [] b1 va (-1 : Int32) t6 kb6 ([c0, c1, c2, c3, c4, c5] : List Int32) 3 kc c0 c1 c2 c3 c4 c5 cz fm T6.heap n0 f9 fq6_0 fq6_2 fq6_1 fq6_3 f13 (own_cRS hr0 (own_cRS hr1 (own_cRS hr2 (own_cRS hr3 (own_cRS hr4 (own_cRS hr5 own_cR0)))))) (Nat.le_of_ble_eq_true rfl) (by decide) (Nat.le_of_ble_eq_true rfl) (by decide) rfl SC hcz SF hfm) hZ (hw _ (List.mem_of_getElem? (i := 114) rfl)) (hw _ (List.mem_of_getElem? (i := 3) rfl)) (by decide) (by decide)) (g := (mkF m 309 #[iv shape, .val (.long pp), .second, iv pat, rv va, iv b_1, iv b_2, iv b_3, iv b_4, iv (-1 : Int32), rv b1] [(.int (3 : Int32)), (.int (-1 : Int32)), (.ref va), (.ref b1)])) rfl (by rw [hml]; rfl) (argsL := [(.ref b1), (.ref va), (.int (-1 : Int32)), (.int (3 : Int32))]) (rest := []) (lenOf pd__Ljava_lang_String__CII_Z rfl) rfl (by show 2 * 0 + _ ≤ _; exact Nat.le_of_eq rfl) (hb hby at_309) rfl eq16 (by decide) (by decide) (c' := 5) (s' := 304) rfl rfl
  obtain ⟨rfl, Nq17, eq17⟩ := hQ17
  have N17 := Fr.app N16 Nq17
  refine own_stW (T' := T17) (g' := (mkF m 312 #[iv shape, .val (.long pp), .second, iv pat, rv va, iv b_1, iv b_2, iv b_3, iv b_4, iv (-1 : Int32), rv b1] [(.int (1 : Int32))])) st17 ?_
  clear st17
  refine own_stW (T' := T17) (g' := (mkF m 315 #[iv shape, .val (.long pp), .second, iv pat, rv va, iv b_1, iv b_2, iv b_3, iv b_4, iv (-1 : Int32), rv b1] [])) (fun _ k_ => XS.ifNo X17.here hx rfl (hb hby at_312) rfl ((if0 _ _).trans (feq (by decide : ¬ ((1 : Int32) = (0 : Int32)))).1) k_) ?_
  refine own_stW (T' := T17) (g' := (mkF m 317 #[iv shape, .val (.long pp), .second, iv pat, rv va, iv b_1, iv b_2, iv b_3, iv b_4, iv (-1 : Int32), rv b1] [(.ref b1)])) (fun _ k_ => XS.aload X17.here hx rfl (hb hby at_315) rfl rfl  k_) ?_
  refine own_stW (T' := T17) (g' := (mkF m 319 #[iv shape, .val (.long pp), .second, iv pat, rv va, iv b_1, iv b_2, iv b_3, iv b_4, iv (-1 : Int32), rv b1] [(.ref va), (.ref b1)])) (fun _ k_ => XS.aload X17.here hx rfl (hb hby at_317) rfl rfl  k_) ?_
  refine own_stW (T' := T17) (g' := (mkF m 321 #[iv shape, .val (.long pp), .second, iv pat, rv va, iv b_1, iv b_2, iv b_3, iv b_4, iv (-1 : Int32), rv b1] [(.int (-1 : Int32)), (.ref va), (.ref b1)])) (fun _ k_ => XS.iload X17.here hx rfl (hb hby at_319) rfl  k_) ?_
  refine own_stW (T' := T17) (g' := (mkF m 322 #[iv shape, .val (.long pp), .second, iv pat, rv va, iv b_1, iv b_2, iv b_3, iv b_4, iv (-1 : Int32), rv b1] [(.int (4 : Int32)), (.int (-1 : Int32)), (.ref va), (.ref b1)])) (fun _ k_ => XS.iconst X17.here hx rfl (hb hby at_321) k_) ?_
  obtain ⟨_, T18, L18, X18, hQ18, st18⟩ := own_callS X17 hx (y := own_m25) hown (mvT hZ (hw _ (List.mem_of_getElem? (i := 112) rfl))) (mvT hZ (hw _ (List.mem_of_getElem? (i := 113) rfl))) (mvT hZ (hw _ (List.mem_of_getElem? (i := 3) rfl))) (mvT hZ (hw _ (List.mem_of_getElem? (i := 114) rfl))) (by decide) (backOf (W := 0) (rm_at_4 l Z a0 hw [] b1 va (-1 : Int32) t6 kb6 ([c0, c1, c2, c3, c4, c5] : List Int32) 4 kc c0 c1 c2 c3 c4 c5 cz fm T6.heap n0 f9 fq6_0 fq6_2 fq6_1 fq6_3 f13 (own_cRS hr0 (own_cRS hr1 (own_cRS hr2 (own_cRS hr3 (own_cRS hr4 (own_cRS hr5 own_cR0)))))) (Nat.le_of_ble_eq_true rfl) (by decide) (Nat.le_of_ble_eq_true rfl) (by decide) rfl SC hcz SF hfm) hZ (hw _ (List.mem_of_getElem? (i := 114) rfl)) (hw _ (List.mem_of_getElem? (i := 3) rfl)) (by decide) (by decide)) (g := (mkF m 322 #[iv shape, .val (.long pp), .second, iv pat, rv va, iv b_1, iv b_2, iv b_3, iv b_4, iv (-1 : Int32), rv b1] [(.int (4 : Int32)), (.int (-1 : Int32)), (.ref va), (.ref b1)])) rfl (by rw [hml]; rfl) (argsL := [(.ref b1), (.ref va), (.int (-1 : Int32)), (.int (4 : Int32))]) (rest := []) (lenOf pd__Ljava_lang_String__CII_Z rfl) rfl (by show 2 * 0 + _ ≤ _; exact Nat.le_of_eq rfl) (hb hby at_322) rfl eq17 (by decide) (by decide) (c' := 5) (s' := 304) rfl rfl
  obtain ⟨rfl, Nq18, eq18⟩ := hQ18
  have N18 := Fr.app N17 Nq18
  refine own_stW (T' := T18) (g' := (mkF m 325 #[iv shape, .val (.long pp), .second, iv pat, rv va, iv b_1, iv b_2, iv b_3, iv b_4, iv (-1 : Int32), rv b1] [(.int (1 : Int32))])) st18 ?_
  clear st18
  refine own_stW (T' := T18) (g' := (mkF m 328 #[iv shape, .val (.long pp), .second, iv pat, rv va, iv b_1, iv b_2, iv b_3, iv b_4, iv (-1 : Int32), rv b1] [])) (fun _ k_ => XS.ifNo X18.here hx rfl (hb hby at_325) rfl ((if0 _ _).trans (feq (by decide : ¬ ((1 : Int32) = (0 : Int32)))).1) k_) ?_
  refine own_stW (T' := T18) (g' := (mkF m 330 #[iv shape, .val (.long pp), .second, iv pat, rv va, iv b_1, iv b_2, iv b_3, iv b_4, iv (-1 : Int32), rv b1] [(.ref b1)])) (fun _ k_ => XS.aload X18.here hx rfl (hb hby at_328) rfl rfl  k_) ?_
  refine own_stW (T' := T18) (g' := (mkF m 332 #[iv shape, .val (.long pp), .second, iv pat, rv va, iv b_1, iv b_2, iv b_3, iv b_4, iv (-1 : Int32), rv b1] [(.ref va), (.ref b1)])) (fun _ k_ => XS.aload X18.here hx rfl (hb hby at_330) rfl rfl  k_) ?_
  refine own_stW (T' := T18) (g' := (mkF m 334 #[iv shape, .val (.long pp), .second, iv pat, rv va, iv b_1, iv b_2, iv b_3, iv b_4, iv (-1 : Int32), rv b1] [(.int (-1 : Int32)), (.ref va), (.ref b1)])) (fun _ k_ => XS.iload X18.here hx rfl (hb hby at_332) rfl  k_) ?_
  refine own_stW (T' := T18) (g' := (mkF m 335 #[iv shape, .val (.long pp), .second, iv pat, rv va, iv b_1, iv b_2, iv b_3, iv b_4, iv (-1 : Int32), rv b1] [(.int (5 : Int32)), (.int (-1 : Int32)), (.ref va), (.ref b1)])) (fun _ k_ => XS.iconst X18.here hx rfl (hb hby at_334) k_) ?_
  obtain ⟨_, T19, L19, X19, hQ19, st19⟩ := own_callS X18 hx (y := own_m25) hown (mvT hZ (hw _ (List.mem_of_getElem? (i := 112) rfl))) (mvT hZ (hw _ (List.mem_of_getElem? (i := 113) rfl))) (mvT hZ (hw _ (List.mem_of_getElem? (i := 3) rfl))) (mvT hZ (hw _ (List.mem_of_getElem? (i := 114) rfl))) (by decide) (backOf (W := 0) (rm_at_5 l Z a0 hw [] b1 va (-1 : Int32) t6 kb6 ([c0, c1, c2, c3, c4, c5] : List Int32) 5 kc c0 c1 c2 c3 c4 c5 cz fm T6.heap n0 f9 fq6_0 fq6_2 fq6_1 fq6_3 f13 (own_cRS hr0 (own_cRS hr1 (own_cRS hr2 (own_cRS hr3 (own_cRS hr4 (own_cRS hr5 own_cR0)))))) (Nat.le_of_ble_eq_true rfl) (by decide) (Nat.le_of_ble_eq_true rfl) (by decide) rfl SC hcz SF hfm) hZ (hw _ (List.mem_of_getElem? (i := 114) rfl)) (hw _ (List.mem_of_getElem? (i := 3) rfl)) (by decide) (by decide)) (g := (mkF m 335 #[iv shape, .val (.long pp), .second, iv pat, rv va, iv b_1, iv b_2, iv b_3, iv b_4, iv (-1 : Int32), rv b1] [(.int (5 : Int32)), (.int (-1 : Int32)), (.ref va), (.ref b1)])) rfl (by rw [hml]; rfl) (argsL := [(.ref b1), (.ref va), (.int (-1 : Int32)), (.int (5 : Int32))]) (rest := []) (lenOf pd__Ljava_lang_String__CII_Z rfl) rfl (by show 2 * 0 + _ ≤ _; exact Nat.le_of_eq rfl) (hb hby at_335) rfl eq18 (by decide) (by decide) (c' := 5) (s' := 304) rfl rfl
  obtain ⟨rfl, Nq19, eq19⟩ := hQ19
  have N19 := Fr.app N18 Nq19
  refine own_stW (T' := T19) (g' := (mkF m 338 #[iv shape, .val (.long pp), .second, iv pat, rv va, iv b_1, iv b_2, iv b_3, iv b_4, iv (-1 : Int32), rv b1] [(.int (1 : Int32))])) st19 ?_
  clear st19
  refine own_stW (T' := T19) (g' := (mkF m 341 #[iv shape, .val (.long pp), .second, iv pat, rv va, iv b_1, iv b_2, iv b_3, iv b_4, iv (-1 : Int32), rv b1] [])) (fun _ k_ => XS.ifNo X19.here hx rfl (hb hby at_338) rfl ((if0 _ _).trans (feq (by decide : ¬ ((1 : Int32) = (0 : Int32)))).1) k_) ?_
  refine own_stW (T' := T19) (g' := (mkF m 342 #[iv shape, .val (.long pp), .second, iv pat, rv va, iv b_1, iv b_2, iv b_3, iv b_4, iv (-1 : Int32), rv b1] [(.int (1 : Int32))])) (fun _ k_ => XS.iconst X19.here hx rfl (hb hby at_341) k_) ?_
  refine own_stW (T' := T19) (g' := (mkF m 346 #[iv shape, .val (.long pp), .second, iv pat, rv va, iv b_1, iv b_2, iv b_3, iv b_4, iv (-1 : Int32), rv b1] [(.int (1 : Int32))])) (fun _ k_ => XS.goto X19.here hx rfl (pc0 := 342) (pc' := 346) rfl (hb hby at_342) (by decide) (by decide) k_) ?_
  exact own_retNW X19 hZ hS0 (by rw [eq19]; exact (Nat.le_trans (Nat.le_trans hk0 E1.1) K6.1)) hEL (by rw [eq19]; exact CR7) hx (t := .boolean) hret (by simp) hlk (hb hby at_346) (by decide) (by decide) ⟨rfl, N19⟩
set_option maxRecDepth 65536 in
set_option maxHeartbeats 40000000 in
theorem seg_t1 {p : Program} {l : Launch} {e : Env} {s : State} {m : MethodId} {args : Array Value} {below : List Frame} {meth : Method} {c : Code} {T0 : State} {locs : List Loc} {Z : State} {a0 : Array Value} {vm0 : Vm} {k0 : Nat} (h0 : Heap) (hB : Heap) (n0 : Nat) (shape : Int32) (pp : Int64) (pat : Int32) (va : Addr) (kc : ClassId) (b_1 : Int32) (b_2 : Int32) (b_3 : Int32) (b_4 : Int32) (c0 : Int32) (c2 : Int32) (c3 : Int32) (c4 : Int32) (c5 : Int32) (cz : Int32) (fm : Value)
    (X0 : Stand p l e room_1 (s.setVm vm0) m args below meth c T0 locs 3 294) (hx : p.tables.exec = Jvm.exec) (hZs : Z.Warmed39 s.vm) (hZ : Z.Warmed39 (s.setVm vm0).vm) (hS0 : s.Since vm0 k0) (hk0 : k0 ≤ hB.size) (CR0 : CHr Z consts_1 s.vm h0 vm0 hB) (hw : ∀ d ∈ tables_1, d.before a0 Z = true) (hby : c.code = code) (hml : c.maxLocals = 11) (howns : s.vm.findClass "com/example/sheafgate/sheafgate/store/SetSpecsLastPartPinLaw" = some m.cls) (hown : (s.setVm vm0).vm.findClass "com/example/sheafgate/sheafgate/store/SetSpecsLastPartPinLaw" = some m.cls) (hnm : meth.name = "law") (hret : meth.sig.returnType = some .boolean) (hlk : meth.locks = false) (e0 : T0.heap = hB) (N0 : Fr n0 locs) (O0 : Old Z n0 hB) (hr0 : ¬ c0 < 0 ∧ ¬ (255 : Int32) < c0) (hr2 : ¬ c2 < 0 ∧ ¬ (255 : Int32) < c2) (hr3 : ¬ c3 < 0 ∧ ¬ (255 : Int32) < c3) (hr4 : ¬ c4 < 0 ∧ ¬ (255 : Int32) < c4) (hr5 : ¬ c5 < 0 ∧ ¬ (255 : Int32) < c5) (hn2 : ¬ (c2.toInt8.toInt32) = ((58 : Int32).toInt8.toInt32)) (hn3 : ¬ (c3.toInt8.toInt32) = ((58 : Int32).toInt8.toInt32)) (hn4 : ¬ (c4.toInt8.toInt32) = ((58 : Int32).toInt8.toInt32)) (hn5 : ¬ (c5.toInt8.toInt32) = ((58 : Int32).toInt8.toInt32)) (VA : Arv Z hB va kc .char (6 : Int32) [(.int c0), (.int (58 : Int32)), (.int c2), (.int c3), (.int c4), (.int c5)] (.int (0 : Int32))) (SC : Sta Z Z.heap "java/lang/String" "COMPACT_STRINGS" "Z" (.int cz)) (hcz : ¬ cz = (0 : Int32)) (SF : Sta Z Z.heap "jdk/internal/util/Preconditions" "SIOOBE_FORMATTER" "Ljava/util/function/BiFunction;" fm) (hfm : fm.isRef = true) :
    own_W p e below s room_1.cells room_1.slots Z consts_1 h0 (own_L n0) T0 (mkF m 235 #[iv shape, .val (.long pp), .second, iv pat, rv va, iv b_1, iv b_2, iv b_3, iv b_4, iv (1 : Int32), .unset] []) := by
  have hEL := own_EW hw
  obtain ⟨T1, h1, X1, e1, E1, A1, D1, -, st1⟩ := newO X0 hx hZ hown (hw _ (List.mem_of_getElem? (i := 40) rfl)) (hw _ (List.mem_of_getElem? (i := 7) rfl)) (hw _ (List.mem_of_getElem? (i := 6) rfl)) e0 (g := (mkF m 235 #[iv shape, .val (.long pp), .second, iv pat, rv va, iv b_1, iv b_2, iv b_3, iv b_4, iv (1 : Int32), .unset] [])) rfl (hb hby at_235) (by decide) (by decide)
  obtain ⟨b1, g1⟩ : ∃ z, z = hB.size := ⟨_, rfl⟩
  rw [← g1] at A1 D1 st1
  have fr1 : n0 ≤ b1 := Nat.le_trans (own_z O0) (Nat.le_of_eq g1.symm)
  have CR2 : CHr Z consts_1 s.vm h0 vm0 h1 := CR0.trans (CHr.ext E1 CR0.1)
  have sf3 : Safe Z consts_1 vm0 h1 b1 := Safe.ext E1 CR0.1 (Safe.new (Nat.le_of_eq g1.symm))
  have F1_value : Fld Z h1 b1 "java/lang/String" "value" "[B" .null := D1 (Or.inr (hw _ (List.mem_of_getElem? (i := 9) rfl))) (ty := (.array .byte)) (by decide)
  have F1_coder : Fld Z h1 b1 "java/lang/String" "coder" "B" (.int (0 : Int32)) := D1 (Or.inr (hw _ (List.mem_of_getElem? (i := 10) rfl))) (ty := .byte) (by decide)
  refine own_stW (T' := T1) (g' := (mkF m 238 #[iv shape, .val (.long pp), .second, iv pat, rv va, iv b_1, iv b_2, iv b_3, iv b_4, iv (1 : Int32), .unset] [(.ref b1)])) st1 ?_
  clear st1
  refine own_stW (T' := T1) (g' := (mkF m 239 #[iv shape, .val (.long pp), .second, iv pat, rv va, iv b_1, iv b_2, iv b_3, iv b_4, iv (1 : Int32), .unset] [(.ref b1), (.ref b1)])) (fun _ k_ => XS.dup X1.here hx rfl (hb hby at_238) rfl rfl k_) ?_
  refine own_stW (T' := T1) (g' := (mkF m 241 #[iv shape, .val (.long pp), .second, iv pat, rv va, iv b_1, iv b_2, iv b_3, iv b_4, iv (1 : Int32), .unset] [(.ref va), (.ref b1), (.ref b1)])) (fun _ k_ => XS.aload X1.here hx rfl (hb hby at_239) rfl rfl  k_) ?_
  have f4 : Arv Z h1 va kc .char (6 : Int32) [(.int c0), (.int (58 : Int32)), (.int c2), (.int c3), (.int c4), (.int c5)] (.int (0 : Int32)) := VA.ext E1
  have f5 : Old Z n0 h1 := O0.ext E1
  obtain ⟨_, T6, L6, X6, hQ6, st6⟩ := own_callI X1 hx (y := own_m4) rfl hown (mvT hZ (hw _ (List.mem_of_getElem? (i := 41) rfl))) (mvT hZ (hw _ (List.mem_of_getElem? (i := 42) rfl))) (mvT hZ (hw _ (List.mem_of_getElem? (i := 43) rfl))) (by decide) (backOf (W := 1) (rm_ini1_6 l Z a0 hw [] b1 va kc cz c0 (58 : Int32) c2 c3 c4 c5 h1 n0 f5 A1 F1_value F1_coder fr1 f4 SC hcz hr0.2 (by decide) hr2.2 hr3.2 hr4.2 hr5.2) hZ (hw _ (List.mem_of_getElem? (i := 43) rfl)) (hw _ (List.mem_of_getElem? (i := 6) rfl)) (by decide) (by decide)) (g := (mkF m 241 #[iv shape, .val (.long pp), .second, iv pat, rv va, iv b_1, iv b_2, iv b_3, iv b_4, iv (1 : Int32), .unset] [(.ref va), (.ref b1), (.ref b1)])) rfl (by rw [hml]; rfl) (a := b1) (argsL := [(.ref va)]) (rest := [(.ref b1)]) (lenOf pd___C_V rfl) rfl (by show 2 * 0 + _ ≤ _; exact Nat.le_of_eq rfl) (hb hby at_241) rfl e1 (by decide) (by decide) (c' := 5) (s' := 304) rfl rfl
  obtain ⟨t6, kb6, rfl, Nq6, K6, fq6_0, fq6_1, fq6_2, fq6_3, xq6_fresh_t⟩ := hQ6
  have N6 := Fr.app N0 Nq6
  have CR7 : CHr Z consts_1 s.vm h0 vm0 T6.heap := CR2.trans (CHr.keep K6 (sfS sf3 sf0) CR2.1)
  have sf8 : Safe Z consts_1 vm0 T6.heap b1 := Safe.keep K6 (sfS sf3 sf0) CR2.1 sf3
  refine own_stW (T' := T6) (g' := (mkF m 244 #[iv shape, .val (.long pp), .second, iv pat, rv va, iv b_1, iv b_2, iv b_3, iv b_4, iv (1 : Int32), .unset] [(.ref b1)])) st6 ?_
  clear st6
  have f9 : Old Z n0 T6.heap := f5.keep K6 (allS fr1 all0)
  obtain ⟨_, T10, L10, X10, hQ10, st10⟩ := own_callS X6 hx (y := own_m21) hown (mvT hZ (hw _ (List.mem_of_getElem? (i := 61) rfl))) (mvT hZ (hw _ (List.mem_of_getElem? (i := 62) rfl))) (mvT hZ (hw _ (List.mem_of_getElem? (i := 63) rfl))) (mvT hZ (hw _ (List.mem_of_getElem? (i := 64) rfl))) (by decide) (backOf (W := 0) (rm_lp_1 l Z a0 hw [] b1 t6 kb6 c0 c2 c3 c4 c5 cz fm T6.heap n0 f9 fq6_0 fq6_2 fq6_1 fq6_3 hn2 hn3 hn4 hn5 SC hcz SF hfm) hZ (hw _ (List.mem_of_getElem? (i := 64) rfl)) (hw _ (List.mem_of_getElem? (i := 63) rfl)) (by decide) (by decide)) (g := (mkF m 244 #[iv shape, .val (.long pp), .second, iv pat, rv va, iv b_1, iv b_2, iv b_3, iv b_4, iv (1 : Int32), .unset] [(.ref b1)])) rfl (by rw [hml]; rfl) (argsL := [(.ref b1)]) (rest := []) (lenOf pd__Ljava_lang_String__Ljava_lang_String_ rfl) rfl (by show 2 * 0 + _ ≤ _; exact Nat.le_of_eq rfl) (hb hby at_244) rfl rfl (by decide) (by decide) (c' := 7) (s' := 312) rfl rfl
  obtain ⟨b10, u10, ku10, rfl, Nq10, K10, fq10_0, fq10_1, fq10_2, fq10_3, xq10_fresh_b⟩ := hQ10
  have N10 := Fr.app N6 Nq10
  have CR11 : CHr Z consts_1 s.vm h0 vm0 T10.heap := CR7.trans (CHr.keep K10 sf0 CR7.1)
  have sf12 : Safe Z consts_1 vm0 T10.heap b1 := Safe.keep K10 sf0 CR7.1 sf8
  refine own_stW (T' := T10) (g' := (mkF m 247 #[iv shape, .val (.long pp), .second, iv pat, rv va, iv b_1, iv b_2, iv b_3, iv b_4, iv (1 : Int32), .unset] [(.ref b10)])) st10 ?_
  clear st10
  refine own_stW (T' := T10) (g' := (mkF m 249 #[iv shape, .val (.long pp), .second, iv pat, rv va, iv b_1, iv b_2, iv b_3, iv b_4, iv (1 : Int32), rv b10] [])) (fun _ k_ => XS.astore X10.here hx rfl (hb hby at_247) rfl rfl (l' := #[iv shape, .val (.long pp), .second, iv pat, rv va, iv b_1, iv b_2, iv b_3, iv b_4, iv (1 : Int32), rv b10]) rfl k_) ?_
  refine own_stW (T' := T10) (g' := (mkF m 251 #[iv shape, .val (.long pp), .second, iv pat, rv va, iv b_1, iv b_2, iv b_3, iv b_4, iv (1 : Int32), rv b10] [(.ref b10)])) (fun _ k_ => XS.aload X10.here hx rfl (hb hby at_249) rfl rfl  k_) ?_
  have f13 : Old Z n0 T10.heap := f9.keep K10 all0
  obtain ⟨cq14, kq14, q14a, q14b, q14c⟩ := isOf hZ rfl fq10_0
  obtain ⟨_, T14, L14, X14, hQ14, st14⟩ := own_callV X10 hx (y := own_m6) (z := own_m6) hown (mvT hZ (hw _ (List.mem_of_getElem? (i := 111) rfl))) (mvT hZ (hw _ (List.mem_of_getElem? (i := 71) rfl))) (notFace_of_selects (args := #[]) (mvT hZ (hw _ (List.mem_of_getElem? (i := 73) rfl)))) (mvT hZ (hw _ (List.mem_of_getElem? (i := 73) rfl))) (mvT hZ (hw _ (List.mem_of_getElem? (i := 72) rfl))) (by decide) (backOf (W := 0) (rm_len l Z a0 hw [] b10 u10 ku10 (4 : Int32) [(.int (c2.toInt8.toInt32)), (.int (c3.toInt8.toInt32)), (.int (c4.toInt8.toInt32)), (.int (c5.toInt8.toInt32))] cz T10.heap n0 f13 fq10_0 fq10_2 fq10_1 fq10_3 SC hcz) hZ (hw _ (List.mem_of_getElem? (i := 74) rfl)) (hw _ (List.mem_of_getElem? (i := 6) rfl)) (by decide) (by decide)) q14a q14c (g := (mkF m 251 #[iv shape, .val (.long pp), .second, iv pat, rv va, iv b_1, iv b_2, iv b_3, iv b_4, iv (1 : Int32), rv b10] [(.ref b10)])) rfl (by rw [hml]; rfl) (argsL := []) (rest := []) (lenOf pd___I rfl) rfl (by show 2 * 0 + _ ≤ _; exact Nat.le_of_eq rfl) (hb hby at_251) rfl rfl (by decide) (by decide) (c' := 7) (s' := 312) rfl rfl
  clear q14a q14b q14c kq14 cq14
  obtain ⟨rfl, Nq14, eq14⟩ := hQ14
  have N14 := Fr.app N10 Nq14
  refine own_stW (T' := T14) (g' := (mkF m 254 #[iv shape, .val (.long pp), .second, iv pat, rv va, iv b_1, iv b_2, iv b_3, iv b_4, iv (1 : Int32), rv b10] [(.int (4 : Int32))])) st14 ?_
  clear st14
  refine own_stW (T' := T14) (g' := (mkF m 255 #[iv shape, .val (.long pp), .second, iv pat, rv va, iv b_1, iv b_2, iv b_3, iv b_4, iv (1 : Int32), rv b10] [(.int (5 : Int32)), (.int (4 : Int32))])) (fun _ k_ => XS.iconst X14.here hx rfl (hb hby at_254) k_) ?_
  refine own_stW (T' := T14) (g' := (mkF m 257 #[iv shape, .val (.long pp), .second, iv pat, rv va, iv b_1, iv b_2, iv b_3, iv b_4, iv (1 : Int32), rv b10] [(.int (1 : Int32)), (.int (5 : Int32)), (.int (4 : Int32))])) (fun _ k_ => XS.iload X14.here hx rfl (hb hby at_255) rfl  k_) ?_
  refine own_stW (T' := T14) (g' := (mkF m 258 #[iv shape, .val (.long pp), .second, iv pat, rv va, iv b_1, iv b_2, iv b_3, iv b_4, iv (1 : Int32), rv b10] [(.int (4 : Int32)), (.int (4 : Int32))])) (fun _ k_ => XS.isub X14.here hx rfl (hb hby at_257) rfl k_) ?_
  refine own_stW (T' := T14) (g' := (mkF m 263 #[iv shape, .val (.long pp), .second, iv pat, rv va, iv b_1, iv b_2, iv b_3, iv b_4, iv (1 : Int32), rv b10] [])) (fun _ k_ => XS.icmpYes X14.here hx rfl (pc0 := 258) (pc' := 263) rfl (hb hby at_258) rfl (teq (rfl : (4 : Int32) = (4 : Int32))).1 (by decide) (by decide) k_) ?_
  refine own_stW (T' := T14) (g' := (mkF m 265 #[iv shape, .val (.long pp), .second, iv pat, rv va, iv b_1, iv b_2, iv b_3, iv b_4, iv (1 : Int32), rv b10] [(.ref b10)])) (fun _ k_ => XS.aload X14.here hx rfl (hb hby at_263) rfl rfl  k_) ?_
  refine own_stW (T' := T14) (g' := (mkF m 267 #[iv shape, .val (.long pp), .second, iv pat, rv va, iv b_1, iv b_2, iv b_3, iv b_4, iv (1 : Int32), rv b10] [(.ref va), (.ref b10)])) (fun _ k_ => XS.aload X14.here hx rfl (hb hby at_265) rfl rfl  k_) ?_
  refine own_stW (T' := T14) (g' := (mkF m 269 #[iv shape, .val (.long pp), .second, iv pat, rv va, iv b_1, iv b_2, iv b_3, iv b_4, iv (1 : Int32), rv b10] [(.int (1 : Int32)), (.ref va), (.ref b10)])) (fun _ k_ => XS.iload X14.here hx rfl (hb hby at_267) rfl  k_) ?_
  refine own_stW (T' := T14) (g' := (mkF m 270 #[iv shape, .val (.long pp), .second, iv pat, rv va, iv b_1, iv b_2, iv b_3, iv b_4, iv (1 : Int32), rv b10] [(.int (0 : Int32)), (.int (1 : Int32)), (.ref va), (.ref b10)])) (fun _ k_ => XS.iconst X14.here hx rfl (hb hby at_269) k_) ?_
  obtain ⟨_, T15, L15, X15, hQ15, st15⟩ := own_callS X14 hx (y := own_m25) hown (mvT hZ (hw _ (List.mem_of_getElem? (i := 112) rfl))) (mvT hZ (hw _ (List.mem_of_getElem? (i := 113) rfl))) (mvT hZ (hw _ (List.mem_of_getElem? (i := 3) rfl))) (mvT hZ (hw _ (List.mem_of_getElem? (i := 114) rfl))) (by decide) (backOf (W := 0) (rm_at0 l Z a0 hw [] b10 va (1 : Int32) (0 : Int32) T10.heap n0 f13 (by decide)) hZ (hw _ (List.mem_of_getElem? (i := 114) rfl)) (hw _ (List.mem_of_getElem? (i := 3) rfl)) (by decide) (by decide)) (g := (mkF m 270 #[iv shape, .val (.long pp), .second, iv pat, rv va, iv b_1, iv b_2, iv b_3, iv b_4, iv (1 : Int32), rv b10] [(.int (0 : Int32)), (.int (1 : Int32)), (.ref va), (.ref b10)])) rfl (by rw [hml]; rfl) (argsL := [(.ref b10), (.ref va), (.int (1 : Int32)), (.int (0 : Int32))]) (rest := []) (lenOf pd__Ljava_lang_String__CII_Z rfl) rfl (by show 2 * 0 + _ ≤ _; exact Nat.le_of_eq rfl) (hb hby at_270) rfl eq14 (by decide) (by decide) (c' := 7) (s' := 312) rfl rfl
  obtain ⟨rfl, Nq15, eq15⟩ := hQ15
  have N15 := Fr.app N14 Nq15
  refine own_stW (T' := T15) (g' := (mkF m 273 #[iv shape, .val (.long pp), .second, iv pat, rv va, iv b_1, iv b_2, iv b_3, iv b_4, iv (1 : Int32), rv b10] [(.int (1 : Int32))])) st15 ?_
  clear st15
  refine own_stW (T' := T15) (g' := (mkF m 276 #[iv shape, .val (.long pp), .second, iv pat, rv va, iv b_1, iv b_2, iv b_3, iv b_4, iv (1 : Int32), rv b10] [])) (fun _ k_ => XS.ifNo X15.here hx rfl (hb hby at_273) rfl ((if0 _ _).trans (feq (by decide : ¬ ((1 : Int32) = (0 : Int32)))).1) k_) ?_
  refine own_stW (T' := T15) (g' := (mkF m 278 #[iv shape, .val (.long pp), .second, iv pat, rv va, iv b_1, iv b_2, iv b_3, iv b_4, iv (1 : Int32), rv b10] [(.ref b10)])) (fun _ k_ => XS.aload X15.here hx rfl (hb hby at_276) rfl rfl  k_) ?_
  refine own_stW (T' := T15) (g' := (mkF m 280 #[iv shape, .val (.long pp), .second, iv pat, rv va, iv b_1, iv b_2, iv b_3, iv b_4, iv (1 : Int32), rv b10] [(.ref va), (.ref b10)])) (fun _ k_ => XS.aload X15.here hx rfl (hb hby at_278) rfl rfl  k_) ?_
  refine own_stW (T' := T15) (g' := (mkF m 282 #[iv shape, .val (.long pp), .second, iv pat, rv va, iv b_1, iv b_2, iv b_3, iv b_4, iv (1 : Int32), rv b10] [(.int (1 : Int32)), (.ref va), (.ref b10)])) (fun _ k_ => XS.iload X15.here hx rfl (hb hby at_280) rfl  k_) ?_
  refine own_stW (T' := T15) (g' := (mkF m 283 #[iv shape, .val (.long pp), .second, iv pat, rv va, iv b_1, iv b_2, iv b_3, iv b_4, iv (1 : Int32), rv b10] [(.int (1 : Int32)), (.int (1 : Int32)), (.ref va), (.ref b10)])) (fun _ k_ => XS.iconst X15.here hx rfl (hb hby at_282) k_) ?_
  obtain ⟨_, T16, L16, X16, hQ16, st16⟩ := own_callS X15 hx (y := own_m25) hown (mvT hZ (hw _ (List.mem_of_getElem? (i := 112) rfl))) (mvT hZ (hw _ (List.mem_of_getElem? (i := 113) rfl))) (mvT hZ (hw _ (List.mem_of_getElem? (i := 3) rfl))) (mvT hZ (hw _ (List.mem_of_getElem? (i := 114) rfl))) (by decide) (backOf (W := 0) (rm_at0 l Z a0 hw [] b10 va (1 : Int32) (1 : Int32) T10.heap n0 f13 (by decide)) hZ (hw _ (List.mem_of_getElem? (i := 114) rfl)) (hw _ (List.mem_of_getElem? (i := 3) rfl)) (by decide) (by decide)) (g := (mkF m 283 #[iv shape, .val (.long pp), .second, iv pat, rv va, iv b_1, iv b_2, iv b_3, iv b_4, iv (1 : Int32), rv b10] [(.int (1 : Int32)), (.int (1 : Int32)), (.ref va), (.ref b10)])) rfl (by rw [hml]; rfl) (argsL := [(.ref b10), (.ref va), (.int (1 : Int32)), (.int (1 : Int32))]) (rest := []) (lenOf pd__Ljava_lang_String__CII_Z rfl) rfl (by show 2 * 0 + _ ≤ _; exact Nat.le_of_eq rfl) (hb hby at_283) rfl eq15 (by decide) (by decide) (c' := 7) (s' := 312) rfl rfl
  obtain ⟨rfl, Nq16, eq16⟩ := hQ16
  have N16 := Fr.app N15 Nq16
  refine own_stW (T' := T16) (g' := (mkF m 286 #[iv shape, .val (.long pp), .second, iv pat, rv va, iv b_1, iv b_2, iv b_3, iv b_4, iv (1 : Int32), rv b10] [(.int (1 : Int32))])) st16 ?_
  clear st16
  refine own_stW (T' := T16) (g' := (mkF m 289 #[iv shape, .val (.long pp), .second, iv pat, rv va, iv b_1, iv b_2, iv b_3, iv b_4, iv (1 : Int32), rv b10] [])) (fun _ k_ => XS.ifNo X16.here hx rfl (hb hby at_286) rfl ((if0 _ _).trans (feq (by decide : ¬ ((1 : Int32) = (0 : Int32)))).1) k_) ?_
  refine own_stW (T' := T16) (g' := (mkF m 291 #[iv shape, .val (.long pp), .second, iv pat, rv va, iv b_1, iv b_2, iv b_3, iv b_4, iv (1 : Int32), rv b10] [(.ref b10)])) (fun _ k_ => XS.aload X16.here hx rfl (hb hby at_289) rfl rfl  k_) ?_
  refine own_stW (T' := T16) (g' := (mkF m 293 #[iv shape, .val (.long pp), .second, iv pat, rv va, iv b_1, iv b_2, iv b_3, iv b_4, iv (1 : Int32), rv b10] [(.ref va), (.ref b10)])) (fun _ k_ => XS.aload X16.here hx rfl (hb hby at_291) rfl rfl  k_) ?_
  refine own_stW (T' := T16) (g' := (mkF m 295 #[iv shape, .val (.long pp), .second, iv pat, rv va, iv b_1, iv b_2, iv b_3, iv b_4, iv (1 : Int32), rv b10] [(.int (1 : Int32)), (.ref va), (.ref b10)])) (fun _ k_ => XS.iload X16.here hx rfl (hb hby at_293) rfl  k_) ?_
  refine own_stW (T' := T16) (g' := (mkF m 296 #[iv shape, .val (.long pp), .second, iv pat, rv va, iv b_1, iv b_2, iv b_3, iv b_4, iv (1 : Int32), rv b10] [(.int (2 : Int32)), (.int (1 : Int32)), (.ref va), (.ref b10)])) (fun _ k_ => XS.iconst X16.here hx rfl (hb hby at_295) k_) ?_
  have ne17 : va ≠ b1 := Nat.ne_of_lt (Nat.lt_of_lt_of_le VA.lt (Nat.le_of_eq g1.symm))
  have f18 : Arv Z T6.heap va kc .char (6 : Int32) [(.int c0), (.int (58 : Int32)), (.int c2), (.int c3), (.int c4), (.int c5)] (.int (0 : Int32)) := f4.keep K6 (ninS ne17 nin0)
  have f19 : Arv Z T10.heap va kc .char (6 : Int32) [(.int c0), (.int (58 : Int32)), (.int c2), (.int c3), (.int c4), (.int c5)] (.int (0 : Int32)) := f18.keep K10 nin0
  obtain ⟨_, T20, L20, X20, hQ20, st20⟩ := own_callS X16 hx (y := own_m25) hown (mvT hZ (hw _ (List.mem_of_getElem? (i := 112) rfl))) (mvT hZ (hw _ (List.mem_of_getElem? (i := 113) rfl))) (mvT hZ (hw _ (List.mem_of_getElem? (i := 3) rfl))) (mvT hZ (hw _ (List.mem_of_getElem? (i := 114) rfl))) (by decide) (backOf (W := 0) (rm_at_2 l Z a0 hw [] b10 va (1 : Int32) u10 ku10 ([c2, c3, c4, c5] : List Int32) 0 kc c0 (58 : Int32) c2 c3 c4 c5 cz fm T10.heap n0 f13 fq10_0 fq10_2 fq10_1 fq10_3 f19 (own_cRS hr2 (own_cRS hr3 (own_cRS hr4 (own_cRS hr5 own_cR0)))) (Nat.le_of_ble_eq_true rfl) (by decide) (Nat.le_of_ble_eq_true rfl) (by decide) rfl SC hcz SF hfm) hZ (hw _ (List.mem_of_getElem? (i := 114) rfl)) (hw _ (List.mem_of_getElem? (i := 3) rfl)) (by decide) (by decide)) (g := (mkF m 296 #[iv shape, .val (.long pp), .second, iv pat, rv va, iv b_1, iv b_2, iv b_3, iv b_4, iv (1 : Int32), rv b10] [(.int (2 : Int32)), (.int (1 : Int32)), (.ref va), (.ref b10)])) rfl (by rw [hml]; rfl) (argsL := [(.ref b10), (.ref va), (.int (1 : Int32)), (.int (2 : Int32))]) (rest := []) (lenOf pd__Ljava_lang_String__CII_Z rfl) rfl (by show 2 * 0 + _ ≤ _; exact Nat.le_of_eq rfl) (hb hby at_296) rfl eq16 (by decide) (by decide) (c' := 7) (s' := 312) rfl rfl
  obtain ⟨rfl, Nq20, eq20⟩ := hQ20
  have N20 := Fr.app N16 Nq20
  refine own_stW (T' := T20) (g' := (mkF m 299 #[iv shape, .val (.long pp), .second, iv pat, rv va, iv b_1, iv b_2, iv b_3, iv b_4, iv (1 : Int32), rv b10] [(.int (1 : Int32))])) st20 ?_
  clear st20
  refine own_stW (T' := T20) (g' := (mkF m 302 #[iv shape, .val (.long pp), .second, iv pat, rv va, iv b_1, iv b_2, iv b_3, iv b_4, iv (1 : Int32), rv b10] [])) (fun _ k_ => XS.ifNo X20.here hx rfl (hb hby at_299) rfl ((if0 _ _).trans (feq (by decide : ¬ ((1 : Int32) = (0 : Int32)))).1) k_) ?_
  refine own_stW (T' := T20) (g' := (mkF m 304 #[iv shape, .val (.long pp), .second, iv pat, rv va, iv b_1, iv b_2, iv b_3, iv b_4, iv (1 : Int32), rv b10] [(.ref b10)])) (fun _ k_ => XS.aload X20.here hx rfl (hb hby at_302) rfl rfl  k_) ?_
  refine own_stW (T' := T20) (g' := (mkF m 306 #[iv shape, .val (.long pp), .second, iv pat, rv va, iv b_1, iv b_2, iv b_3, iv b_4, iv (1 : Int32), rv b10] [(.ref va), (.ref b10)])) (fun _ k_ => XS.aload X20.here hx rfl (hb hby at_304) rfl rfl  k_) ?_
  refine own_stW (T' := T20) (g' := (mkF m 308 #[iv shape, .val (.long pp), .second, iv pat, rv va, iv b_1, iv b_2, iv b_3, iv b_4, iv (1 : Int32), rv b10] [(.int (1 : Int32)), (.ref va), (.ref b10)])) (fun _ k_ => XS.iload X20.here hx rfl (hb hby at_306) rfl  k_) ?_
  refine own_stW (T' := T20) (g' := (mkF m 309 #[iv shape, .val (.long pp), .second, iv pat, rv va, iv b_1, iv b_2, iv b_3, iv b_4, iv (1 : Int32), rv b10] [(.int (3 : Int32)), (.int (1 : Int32)), (.ref va), (.ref b10)])) (fun _ k_ => XS.iconst X20.here hx rfl (hb hby at_308) k_) ?_
  obtain ⟨_, T21, L21, X21, hQ21, st21⟩ := own_callS X20 hx (y := own_m25) hown (mvT hZ (hw _ (List.mem_of_getElem? (i := 112) rfl))) (mvT hZ (hw _ (List.mem_of_getElem? (i := 113) rfl))) (mvT hZ (hw _ (List.mem_of_getElem? (i := 3) rfl))) (mvT hZ (hw _ (List.mem_of_getElem? (i := 114) rfl))) (by decide) (backOf (W := 0) (rm_at_3 l Z a0 hw [] b10 va (1 : Int32) u10 ku10 ([c2, c3, c4, c5] : List Int32) 1 kc c0 (58 : Int32) c2 c3 c4 c5 cz fm T10.heap n0 f13 fq10_0 fq10_2 fq10_1 fq10_3 f19 (own_cRS hr2 (own_cRS hr3 (own_cRS hr4 (own_cRS hr5 own_cR0)))) (Nat.le_of_ble_eq_true rfl) (by decide) (Nat.le_of_ble_eq_true rfl) (by decide) rfl SC hcz SF hfm) hZ (hw _ (List.mem_of_getElem? (i := 114) rfl)) (hw _ (List.mem_of_getElem? (i := 3) rfl)) (by decide) (by decide)) (g := (mkF m 309 #[iv shape, .val (.long pp), .second, iv pat, rv va, iv b_1, iv b_2, iv b_3, iv b_4, iv (1 : Int32), rv b10] [(.int (3 : Int32)), (.int (1 : Int32)), (.ref va), (.ref b10)])) rfl (by rw [hml]; rfl) (argsL := [(.ref b10), (.ref va), (.int (1 : Int32)), (.int (3 : Int32))]) (rest := []) (lenOf pd__Ljava_lang_String__CII_Z rfl) rfl (by show 2 * 0 + _ ≤ _; exact Nat.le_of_eq rfl) (hb hby at_309) rfl eq20 (by decide) (by decide) (c' := 7) (s' := 312) rfl rfl
  obtain ⟨rfl, Nq21, eq21⟩ := hQ21
  have N21 := Fr.app N20 Nq21
  refine own_stW (T' := T21) (g' := (mkF m 312 #[iv shape, .val (.long pp), .second, iv pat, rv va, iv b_1, iv b_2, iv b_3, iv b_4, iv (1 : Int32), rv b10] [(.int (1 : Int32))])) st21 ?_
  clear st21
  refine own_stW (T' := T21) (g' := (mkF m 315 #[iv shape, .val (.long pp), .second, iv pat, rv va, iv b_1, iv b_2, iv b_3, iv b_4, iv (1 : Int32), rv b10] [])) (fun _ k_ => XS.ifNo X21.here hx rfl (hb hby at_312) rfl ((if0 _ _).trans (feq (by decide : ¬ ((1 : Int32) = (0 : Int32)))).1) k_) ?_
  refine own_stW (T' := T21) (g' := (mkF m 317 #[iv shape, .val (.long pp), .second, iv pat, rv va, iv b_1, iv b_2, iv b_3, iv b_4, iv (1 : Int32), rv b10] [(.ref b10)])) (fun _ k_ => XS.aload X21.here hx rfl (hb hby at_315) rfl rfl  k_) ?_
  refine own_stW (T' := T21) (g' := (mkF m 319 #[iv shape, .val (.long pp), .second, iv pat, rv va, iv b_1, iv b_2, iv b_3, iv b_4, iv (1 : Int32), rv b10] [(.ref va), (.ref b10)])) (fun _ k_ => XS.aload X21.here hx rfl (hb hby at_317) rfl rfl  k_) ?_
  refine own_stW (T' := T21) (g' := (mkF m 321 #[iv shape, .val (.long pp), .second, iv pat, rv va, iv b_1, iv b_2, iv b_3, iv b_4, iv (1 : Int32), rv b10] [(.int (1 : Int32)), (.ref va), (.ref b10)])) (fun _ k_ => XS.iload X21.here hx rfl (hb hby at_319) rfl  k_) ?_
  refine own_stW (T' := T21) (g' := (mkF m 322 #[iv shape, .val (.long pp), .second, iv pat, rv va, iv b_1, iv b_2, iv b_3, iv b_4, iv (1 : Int32), rv b10] [(.int (4 : Int32)), (.int (1 : Int32)), (.ref va), (.ref b10)])) (fun _ k_ => XS.iconst X21.here hx rfl (hb hby at_321) k_) ?_
  obtain ⟨_, T22, L22, X22, hQ22, st22⟩ := own_callS X21 hx (y := own_m25) hown (mvT hZ (hw _ (List.mem_of_getElem? (i := 112) rfl))) (mvT hZ (hw _ (List.mem_of_getElem? (i := 113) rfl))) (mvT hZ (hw _ (List.mem_of_getElem? (i := 3) rfl))) (mvT hZ (hw _ (List.mem_of_getElem? (i := 114) rfl))) (by decide) (backOf (W := 0) (rm_at_4 l Z a0 hw [] b10 va (1 : Int32) u10 ku10 ([c2, c3, c4, c5] : List Int32) 2 kc c0 (58 : Int32) c2 c3 c4 c5 cz fm T10.heap n0 f13 fq10_0 fq10_2 fq10_1 fq10_3 f19 (own_cRS hr2 (own_cRS hr3 (own_cRS hr4 (own_cRS hr5 own_cR0)))) (Nat.le_of_ble_eq_true rfl) (by decide) (Nat.le_of_ble_eq_true rfl) (by decide) rfl SC hcz SF hfm) hZ (hw _ (List.mem_of_getElem? (i := 114) rfl)) (hw _ (List.mem_of_getElem? (i := 3) rfl)) (by decide) (by decide)) (g := (mkF m 322 #[iv shape, .val (.long pp), .second, iv pat, rv va, iv b_1, iv b_2, iv b_3, iv b_4, iv (1 : Int32), rv b10] [(.int (4 : Int32)), (.int (1 : Int32)), (.ref va), (.ref b10)])) rfl (by rw [hml]; rfl) (argsL := [(.ref b10), (.ref va), (.int (1 : Int32)), (.int (4 : Int32))]) (rest := []) (lenOf pd__Ljava_lang_String__CII_Z rfl) rfl (by show 2 * 0 + _ ≤ _; exact Nat.le_of_eq rfl) (hb hby at_322) rfl eq21 (by decide) (by decide) (c' := 7) (s' := 312) rfl rfl
  obtain ⟨rfl, Nq22, eq22⟩ := hQ22
  have N22 := Fr.app N21 Nq22
  refine own_stW (T' := T22) (g' := (mkF m 325 #[iv shape, .val (.long pp), .second, iv pat, rv va, iv b_1, iv b_2, iv b_3, iv b_4, iv (1 : Int32), rv b10] [(.int (1 : Int32))])) st22 ?_
  clear st22
  refine own_stW (T' := T22) (g' := (mkF m 328 #[iv shape, .val (.long pp), .second, iv pat, rv va, iv b_1, iv b_2, iv b_3, iv b_4, iv (1 : Int32), rv b10] [])) (fun _ k_ => XS.ifNo X22.here hx rfl (hb hby at_325) rfl ((if0 _ _).trans (feq (by decide : ¬ ((1 : Int32) = (0 : Int32)))).1) k_) ?_
  refine own_stW (T' := T22) (g' := (mkF m 330 #[iv shape, .val (.long pp), .second, iv pat, rv va, iv b_1, iv b_2, iv b_3, iv b_4, iv (1 : Int32), rv b10] [(.ref b10)])) (fun _ k_ => XS.aload X22.here hx rfl (hb hby at_328) rfl rfl  k_) ?_
  refine own_stW (T' := T22) (g' := (mkF m 332 #[iv shape, .val (.long pp), .second, iv pat, rv va, iv b_1, iv b_2, iv b_3, iv b_4, iv (1 : Int32), rv b10] [(.ref va), (.ref b10)])) (fun _ k_ => XS.aload X22.here hx rfl (hb hby at_330) rfl rfl  k_) ?_
  refine own_stW (T' := T22) (g' := (mkF m 334 #[iv shape, .val (.long pp), .second, iv pat, rv va, iv b_1, iv b_2, iv b_3, iv b_4, iv (1 : Int32), rv b10] [(.int (1 : Int32)), (.ref va), (.ref b10)])) (fun _ k_ => XS.iload X22.here hx rfl (hb hby at_332) rfl  k_) ?_
  refine own_stW (T' := T22) (g' := (mkF m 335 #[iv shape, .val (.long pp), .second, iv pat, rv va, iv b_1, iv b_2, iv b_3, iv b_4, iv (1 : Int32), rv b10] [(.int (5 : Int32)), (.int (1 : Int32)), (.ref va), (.ref b10)])) (fun _ k_ => XS.iconst X22.here hx rfl (hb hby at_334) k_) ?_
  obtain ⟨_, T23, L23, X23, hQ23, st23⟩ := own_callS X22 hx (y := own_m25) hown (mvT hZ (hw _ (List.mem_of_getElem? (i := 112) rfl))) (mvT hZ (hw _ (List.mem_of_getElem? (i := 113) rfl))) (mvT hZ (hw _ (List.mem_of_getElem? (i := 3) rfl))) (mvT hZ (hw _ (List.mem_of_getElem? (i := 114) rfl))) (by decide) (backOf (W := 0) (rm_at_5 l Z a0 hw [] b10 va (1 : Int32) u10 ku10 ([c2, c3, c4, c5] : List Int32) 3 kc c0 (58 : Int32) c2 c3 c4 c5 cz fm T10.heap n0 f13 fq10_0 fq10_2 fq10_1 fq10_3 f19 (own_cRS hr2 (own_cRS hr3 (own_cRS hr4 (own_cRS hr5 own_cR0)))) (Nat.le_of_ble_eq_true rfl) (by decide) (Nat.le_of_ble_eq_true rfl) (by decide) rfl SC hcz SF hfm) hZ (hw _ (List.mem_of_getElem? (i := 114) rfl)) (hw _ (List.mem_of_getElem? (i := 3) rfl)) (by decide) (by decide)) (g := (mkF m 335 #[iv shape, .val (.long pp), .second, iv pat, rv va, iv b_1, iv b_2, iv b_3, iv b_4, iv (1 : Int32), rv b10] [(.int (5 : Int32)), (.int (1 : Int32)), (.ref va), (.ref b10)])) rfl (by rw [hml]; rfl) (argsL := [(.ref b10), (.ref va), (.int (1 : Int32)), (.int (5 : Int32))]) (rest := []) (lenOf pd__Ljava_lang_String__CII_Z rfl) rfl (by show 2 * 0 + _ ≤ _; exact Nat.le_of_eq rfl) (hb hby at_335) rfl eq22 (by decide) (by decide) (c' := 7) (s' := 312) rfl rfl
  obtain ⟨rfl, Nq23, eq23⟩ := hQ23
  have N23 := Fr.app N22 Nq23
  refine own_stW (T' := T23) (g' := (mkF m 338 #[iv shape, .val (.long pp), .second, iv pat, rv va, iv b_1, iv b_2, iv b_3, iv b_4, iv (1 : Int32), rv b10] [(.int (1 : Int32))])) st23 ?_
  clear st23
  refine own_stW (T' := T23) (g' := (mkF m 341 #[iv shape, .val (.long pp), .second, iv pat, rv va, iv b_1, iv b_2, iv b_3, iv b_4, iv (1 : Int32), rv b10] [])) (fun _ k_ => XS.ifNo X23.here hx rfl (hb hby at_338) rfl ((if0 _ _).trans (feq (by decide : ¬ ((1 : Int32) = (0 : Int32)))).1) k_) ?_
  refine own_stW (T' := T23) (g' := (mkF m 342 #[iv shape, .val (.long pp), .second, iv pat, rv va, iv b_1, iv b_2, iv b_3, iv b_4, iv (1 : Int32), rv b10] [(.int (1 : Int32))])) (fun _ k_ => XS.iconst X23.here hx rfl (hb hby at_341) k_) ?_
  refine own_stW (T' := T23) (g' := (mkF m 346 #[iv shape, .val (.long pp), .second, iv pat, rv va, iv b_1, iv b_2, iv b_3, iv b_4, iv (1 : Int32), rv b10] [(.int (1 : Int32))])) (fun _ k_ => XS.goto X23.here hx rfl (pc0 := 342) (pc' := 346) rfl (hb hby at_342) (by decide) (by decide) k_) ?_
  exact own_retNW X23 hZ hS0 (by rw [eq23]; exact (Nat.le_trans (Nat.le_trans (Nat.le_trans hk0 E1.1) K6.1) K10.1)) hEL (by rw [eq23]; exact CR11) hx (t := .boolean) hret (by simp) hlk (hb hby at_346) (by decide) (by decide) ⟨rfl, N23⟩
set_option maxRecDepth 65536 in
set_option maxHeartbeats 40000000 in
theorem seg_t2 {p : Program} {l : Launch} {e : Env} {s : State} {m : MethodId} {args : Array Value} {below : List Frame} {meth : Method} {c : Code} {T0 : State} {locs : List Loc} {Z : State} {a0 : Array Value} {vm0 : Vm} {k0 : Nat} (h0 : Heap) (hB : Heap) (n0 : Nat) (shape : Int32) (pp : Int64) (pat : Int32) (va : Addr) (kc : ClassId) (b_1 : Int32) (b_2 : Int32) (b_3 : Int32) (b_4 : Int32) (c0 : Int32) (c1 : Int32) (c3 : Int32) (c4 : Int32) (c5 : Int32) (cz : Int32) (fm : Value)
    (X0 : Stand p l e room_1 (s.setVm vm0) m args below meth c T0 locs 3 294) (hx : p.tables.exec = Jvm.exec) (hZs : Z.Warmed39 s.vm) (hZ : Z.Warmed39 (s.setVm vm0).vm) (hS0 : s.Since vm0 k0) (hk0 : k0 ≤ hB.size) (CR0 : CHr Z consts_1 s.vm h0 vm0 hB) (hw : ∀ d ∈ tables_1, d.before a0 Z = true) (hby : c.code = code) (hml : c.maxLocals = 11) (howns : s.vm.findClass "com/example/sheafgate/sheafgate/store/SetSpecsLastPartPinLaw" = some m.cls) (hown : (s.setVm vm0).vm.findClass "com/example/sheafgate/sheafgate/store/SetSpecsLastPartPinLaw" = some m.cls) (hnm : meth.name = "law") (hret : meth.sig.returnType = some .boolean) (hlk : meth.locks = false) (e0 : T0.heap = hB) (N0 : Fr n0 locs) (O0 : Old Z n0 hB) (hr0 : ¬ c0 < 0 ∧ ¬ (255 : Int32) < c0) (hr1 : ¬ c1 < 0 ∧ ¬ (255 : Int32) < c1) (hr3 : ¬ c3 < 0 ∧ ¬ (255 : Int32) < c3) (hr4 : ¬ c4 < 0 ∧ ¬ (255 : Int32) < c4) (hr5 : ¬ c5 < 0 ∧ ¬ (255 : Int32) < c5) (hn3 : ¬ (c3.toInt8.toInt32) = ((58 : Int32).toInt8.toInt32)) (hn4 : ¬ (c4.toInt8.toInt32) = ((58 : Int32).toInt8.toInt32)) (hn5 : ¬ (c5.toInt8.toInt32) = ((58 : Int32).toInt8.toInt32)) (VA : Arv Z hB va kc .char (6 : Int32) [(.int c0), (.int c1), (.int (58 : Int32)), (.int c3), (.int c4), (.int c5)] (.int (0 : Int32))) (SC : Sta Z Z.heap "java/lang/String" "COMPACT_STRINGS" "Z" (.int cz)) (hcz : ¬ cz = (0 : Int32)) (SF : Sta Z Z.heap "jdk/internal/util/Preconditions" "SIOOBE_FORMATTER" "Ljava/util/function/BiFunction;" fm) (hfm : fm.isRef = true) :
    own_W p e below s room_1.cells room_1.slots Z consts_1 h0 (own_L n0) T0 (mkF m 235 #[iv shape, .val (.long pp), .second, iv pat, rv va, iv b_1, iv b_2, iv b_3, iv b_4, iv (2 : Int32), .unset] []) := by
  have hEL := own_EW hw
  obtain ⟨T1, h1, X1, e1, E1, A1, D1, -, st1⟩ := newO X0 hx hZ hown (hw _ (List.mem_of_getElem? (i := 40) rfl)) (hw _ (List.mem_of_getElem? (i := 7) rfl)) (hw _ (List.mem_of_getElem? (i := 6) rfl)) e0 (g := (mkF m 235 #[iv shape, .val (.long pp), .second, iv pat, rv va, iv b_1, iv b_2, iv b_3, iv b_4, iv (2 : Int32), .unset] [])) rfl (hb hby at_235) (by decide) (by decide)
  obtain ⟨b1, g1⟩ : ∃ z, z = hB.size := ⟨_, rfl⟩
  rw [← g1] at A1 D1 st1
  have fr1 : n0 ≤ b1 := Nat.le_trans (own_z O0) (Nat.le_of_eq g1.symm)
  have CR2 : CHr Z consts_1 s.vm h0 vm0 h1 := CR0.trans (CHr.ext E1 CR0.1)
  have sf3 : Safe Z consts_1 vm0 h1 b1 := Safe.ext E1 CR0.1 (Safe.new (Nat.le_of_eq g1.symm))
  have F1_value : Fld Z h1 b1 "java/lang/String" "value" "[B" .null := D1 (Or.inr (hw _ (List.mem_of_getElem? (i := 9) rfl))) (ty := (.array .byte)) (by decide)
  have F1_coder : Fld Z h1 b1 "java/lang/String" "coder" "B" (.int (0 : Int32)) := D1 (Or.inr (hw _ (List.mem_of_getElem? (i := 10) rfl))) (ty := .byte) (by decide)
  refine own_stW (T' := T1) (g' := (mkF m 238 #[iv shape, .val (.long pp), .second, iv pat, rv va, iv b_1, iv b_2, iv b_3, iv b_4, iv (2 : Int32), .unset] [(.ref b1)])) st1 ?_
  clear st1
  refine own_stW (T' := T1) (g' := (mkF m 239 #[iv shape, .val (.long pp), .second, iv pat, rv va, iv b_1, iv b_2, iv b_3, iv b_4, iv (2 : Int32), .unset] [(.ref b1), (.ref b1)])) (fun _ k_ => XS.dup X1.here hx rfl (hb hby at_238) rfl rfl k_) ?_
  refine own_stW (T' := T1) (g' := (mkF m 241 #[iv shape, .val (.long pp), .second, iv pat, rv va, iv b_1, iv b_2, iv b_3, iv b_4, iv (2 : Int32), .unset] [(.ref va), (.ref b1), (.ref b1)])) (fun _ k_ => XS.aload X1.here hx rfl (hb hby at_239) rfl rfl  k_) ?_
  have f4 : Arv Z h1 va kc .char (6 : Int32) [(.int c0), (.int c1), (.int (58 : Int32)), (.int c3), (.int c4), (.int c5)] (.int (0 : Int32)) := VA.ext E1
  have f5 : Old Z n0 h1 := O0.ext E1
  obtain ⟨_, T6, L6, X6, hQ6, st6⟩ := own_callI X1 hx (y := own_m4) rfl hown (mvT hZ (hw _ (List.mem_of_getElem? (i := 41) rfl))) (mvT hZ (hw _ (List.mem_of_getElem? (i := 42) rfl))) (mvT hZ (hw _ (List.mem_of_getElem? (i := 43) rfl))) (by decide) (backOf (W := 1) (rm_ini1_6 l Z a0 hw [] b1 va kc cz c0 c1 (58 : Int32) c3 c4 c5 h1 n0 f5 A1 F1_value F1_coder fr1 f4 SC hcz hr0.2 hr1.2 (by decide) hr3.2 hr4.2 hr5.2) hZ (hw _ (List.mem_of_getElem? (i := 43) rfl)) (hw _ (List.mem_of_getElem? (i := 6) rfl)) (by decide) (by decide)) (g := (mkF m 241 #[iv shape, .val (.long pp), .second, iv pat, rv va, iv b_1, iv b_2, iv b_3, iv b_4, iv (2 : Int32), .unset] [(.ref va), (.ref b1), (.ref b1)])) rfl (by rw [hml]; rfl) (a := b1) (argsL := [(.ref va)]) (rest := [(.ref b1)]) (lenOf pd___C_V rfl) rfl (by show 2 * 0 + _ ≤ _; exact Nat.le_of_eq rfl) (hb hby at_241) rfl e1 (by decide) (by decide) (c' := 5) (s' := 304) rfl rfl
  obtain ⟨t6, kb6, rfl, Nq6, K6, fq6_0, fq6_1, fq6_2, fq6_3, xq6_fresh_t⟩ := hQ6
  have N6 := Fr.app N0 Nq6
  have CR7 : CHr Z consts_1 s.vm h0 vm0 T6.heap := CR2.trans (CHr.keep K6 (sfS sf3 sf0) CR2.1)
  have sf8 : Safe Z consts_1 vm0 T6.heap b1 := Safe.keep K6 (sfS sf3 sf0) CR2.1 sf3
  refine own_stW (T' := T6) (g' := (mkF m 244 #[iv shape, .val (.long pp), .second, iv pat, rv va, iv b_1, iv b_2, iv b_3, iv b_4, iv (2 : Int32), .unset] [(.ref b1)])) st6 ?_
  clear st6
  have f9 : Old Z n0 T6.heap := f5.keep K6 (allS fr1 all0)
  obtain ⟨_, T10, L10, X10, hQ10, st10⟩ := own_callS X6 hx (y := own_m21) hown (mvT hZ (hw _ (List.mem_of_getElem? (i := 61) rfl))) (mvT hZ (hw _ (List.mem_of_getElem? (i := 62) rfl))) (mvT hZ (hw _ (List.mem_of_getElem? (i := 63) rfl))) (mvT hZ (hw _ (List.mem_of_getElem? (i := 64) rfl))) (by decide) (backOf (W := 0) (rm_lp_2 l Z a0 hw [] b1 t6 kb6 c0 c1 c3 c4 c5 cz fm T6.heap n0 f9 fq6_0 fq6_2 fq6_1 fq6_3 hn3 hn4 hn5 SC hcz SF hfm) hZ (hw _ (List.mem_of_getElem? (i := 64) rfl)) (hw _ (List.mem_of_getElem? (i := 63) rfl)) (by decide) (by decide)) (g := (mkF m 244 #[iv shape, .val (.long pp), .second, iv pat, rv va, iv b_1, iv b_2, iv b_3, iv b_4, iv (2 : Int32), .unset] [(.ref b1)])) rfl (by rw [hml]; rfl) (argsL := [(.ref b1)]) (rest := []) (lenOf pd__Ljava_lang_String__Ljava_lang_String_ rfl) rfl (by show 2 * 0 + _ ≤ _; exact Nat.le_of_eq rfl) (hb hby at_244) rfl rfl (by decide) (by decide) (c' := 7) (s' := 311) rfl rfl
  obtain ⟨b10, u10, ku10, rfl, Nq10, K10, fq10_0, fq10_1, fq10_2, fq10_3, xq10_fresh_b⟩ := hQ10
  have N10 := Fr.app N6 Nq10
  have CR11 : CHr Z consts_1 s.vm h0 vm0 T10.heap := CR7.trans (CHr.keep K10 sf0 CR7.1)
  have sf12 : Safe Z consts_1 vm0 T10.heap b1 := Safe.keep K10 sf0 CR7.1 sf8
  refine own_stW (T' := T10) (g' := (mkF m 247 #[iv shape, .val (.long pp), .second, iv pat, rv va, iv b_1, iv b_2, iv b_3, iv b_4, iv (2 : Int32), .unset] [(.ref b10)])) st10 ?_
  clear st10
  refine own_stW (T' := T10) (g' := (mkF m 249 #[iv shape, .val (.long pp), .second, iv pat, rv va, iv b_1, iv b_2, iv b_3, iv b_4, iv (2 : Int32), rv b10] [])) (fun _ k_ => XS.astore X10.here hx rfl (hb hby at_247) rfl rfl (l' := #[iv shape, .val (.long pp), .second, iv pat, rv va, iv b_1, iv b_2, iv b_3, iv b_4, iv (2 : Int32), rv b10]) rfl k_) ?_
  refine own_stW (T' := T10) (g' := (mkF m 251 #[iv shape, .val (.long pp), .second, iv pat, rv va, iv b_1, iv b_2, iv b_3, iv b_4, iv (2 : Int32), rv b10] [(.ref b10)])) (fun _ k_ => XS.aload X10.here hx rfl (hb hby at_249) rfl rfl  k_) ?_
  have f13 : Old Z n0 T10.heap := f9.keep K10 all0
  obtain ⟨cq14, kq14, q14a, q14b, q14c⟩ := isOf hZ rfl fq10_0
  obtain ⟨_, T14, L14, X14, hQ14, st14⟩ := own_callV X10 hx (y := own_m6) (z := own_m6) hown (mvT hZ (hw _ (List.mem_of_getElem? (i := 111) rfl))) (mvT hZ (hw _ (List.mem_of_getElem? (i := 71) rfl))) (notFace_of_selects (args := #[]) (mvT hZ (hw _ (List.mem_of_getElem? (i := 73) rfl)))) (mvT hZ (hw _ (List.mem_of_getElem? (i := 73) rfl))) (mvT hZ (hw _ (List.mem_of_getElem? (i := 72) rfl))) (by decide) (backOf (W := 0) (rm_len l Z a0 hw [] b10 u10 ku10 (3 : Int32) [(.int (c3.toInt8.toInt32)), (.int (c4.toInt8.toInt32)), (.int (c5.toInt8.toInt32))] cz T10.heap n0 f13 fq10_0 fq10_2 fq10_1 fq10_3 SC hcz) hZ (hw _ (List.mem_of_getElem? (i := 74) rfl)) (hw _ (List.mem_of_getElem? (i := 6) rfl)) (by decide) (by decide)) q14a q14c (g := (mkF m 251 #[iv shape, .val (.long pp), .second, iv pat, rv va, iv b_1, iv b_2, iv b_3, iv b_4, iv (2 : Int32), rv b10] [(.ref b10)])) rfl (by rw [hml]; rfl) (argsL := []) (rest := []) (lenOf pd___I rfl) rfl (by show 2 * 0 + _ ≤ _; exact Nat.le_of_eq rfl) (hb hby at_251) rfl rfl (by decide) (by decide) (c' := 7) (s' := 311) rfl rfl
  clear q14a q14b q14c kq14 cq14
  obtain ⟨rfl, Nq14, eq14⟩ := hQ14
  have N14 := Fr.app N10 Nq14
  refine own_stW (T' := T14) (g' := (mkF m 254 #[iv shape, .val (.long pp), .second, iv pat, rv va, iv b_1, iv b_2, iv b_3, iv b_4, iv (2 : Int32), rv b10] [(.int (3 : Int32))])) st14 ?_
  clear st14
  refine own_stW (T' := T14) (g' := (mkF m 255 #[iv shape, .val (.long pp), .second, iv pat, rv va, iv b_1, iv b_2, iv b_3, iv b_4, iv (2 : Int32), rv b10] [(.int (5 : Int32)), (.int (3 : Int32))])) (fun _ k_ => XS.iconst X14.here hx rfl (hb hby at_254) k_) ?_
  refine own_stW (T' := T14) (g' := (mkF m 257 #[iv shape, .val (.long pp), .second, iv pat, rv va, iv b_1, iv b_2, iv b_3, iv b_4, iv (2 : Int32), rv b10] [(.int (2 : Int32)), (.int (5 : Int32)), (.int (3 : Int32))])) (fun _ k_ => XS.iload X14.here hx rfl (hb hby at_255) rfl  k_) ?_
  refine own_stW (T' := T14) (g' := (mkF m 258 #[iv shape, .val (.long pp), .second, iv pat, rv va, iv b_1, iv b_2, iv b_3, iv b_4, iv (2 : Int32), rv b10] [(.int (3 : Int32)), (.int (3 : Int32))])) (fun _ k_ => XS.isub X14.here hx rfl (hb hby at_257) rfl k_) ?_
  refine own_stW (T' := T14) (g' := (mkF m 263 #[iv shape, .val (.long pp), .second, iv pat, rv va, iv b_1, iv b_2, iv b_3, iv b_4, iv (2 : Int32), rv b10] [])) (fun _ k_ => XS.icmpYes X14.here hx rfl (pc0 := 258) (pc' := 263) rfl (hb hby at_258) rfl (teq (rfl : (3 : Int32) = (3 : Int32))).1 (by decide) (by decide) k_) ?_
  refine own_stW (T' := T14) (g' := (mkF m 265 #[iv shape, .val (.long pp), .second, iv pat, rv va, iv b_1, iv b_2, iv b_3, iv b_4, iv (2 : Int32), rv b10] [(.ref b10)])) (fun _ k_ => XS.aload X14.here hx rfl (hb hby at_263) rfl rfl  k_) ?_
  refine own_stW (T' := T14) (g' := (mkF m 267 #[iv shape, .val (.long pp), .second, iv pat, rv va, iv b_1, iv b_2, iv b_3, iv b_4, iv (2 : Int32), rv b10] [(.ref va), (.ref b10)])) (fun _ k_ => XS.aload X14.here hx rfl (hb hby at_265) rfl rfl  k_) ?_
  refine own_stW (T' := T14) (g' := (mkF m 269 #[iv shape, .val (.long pp), .second, iv pat, rv va, iv b_1, iv b_2, iv b_3, iv b_4, iv (2 : Int32), rv b10] [(.int (2 : Int32)), (.ref va), (.ref b10)])) (fun _ k_ => XS.iload X14.here hx rfl (hb hby at_267) rfl  k_) ?_
  refine own_stW (T' := T14) (g' := (mkF m 270 #[iv shape, .val (.long pp), .second, iv pat, rv va, iv b_1, iv b_2, iv b_3, iv b_4, iv (2 : Int32), rv b10] [(.int (0 : Int32)), (.int (2 : Int32)), (.ref va), (.ref b10)])) (fun _ k_ => XS.iconst X14.here hx rfl (hb hby at_269) k_) ?_
  obtain ⟨_, T15, L15, X15, hQ15, st15⟩ := own_callS X14 hx (y := own_m25) hown (mvT hZ (hw _ (List.mem_of_getElem? (i := 112) rfl))) (mvT hZ (hw _ (List.mem_of_getElem? (i := 113) rfl))) (mvT hZ (hw _ (List.mem_of_getElem? (i := 3) rfl))) (mvT hZ (hw _ (List.mem_of_getElem? (i := 114) rfl))) (by decide) (backOf (W := 0) (rm_at0 l Z a0 hw [] b10 va (2 : Int32) (0 : Int32) T10.heap n0 f13 (by decide)) hZ (hw _ (List.mem_of_getElem? (i := 114) rfl)) (hw _ (List.mem_of_getElem? (i := 3) rfl)) (by decide) (by decide)) (g := (mkF m 270 #[iv shape, .val (.long pp), .second, iv pat, rv va, iv b_1, iv b_2, iv b_3, iv b_4, iv (2 : Int32), rv b10] [(.int (0 : Int32)), (.int (2 : Int32)), (.ref va), (.ref b10)])) rfl (by rw [hml]; rfl) (argsL := [(.ref b10), (.ref va), (.int (2 : Int32)), (.int (0 : Int32))]) (rest := []) (lenOf pd__Ljava_lang_String__CII_Z rfl) rfl (by show 2 * 0 + _ ≤ _; exact Nat.le_of_eq rfl) (hb hby at_270) rfl eq14 (by decide) (by decide) (c' := 7) (s' := 311) rfl rfl
  obtain ⟨rfl, Nq15, eq15⟩ := hQ15
  have N15 := Fr.app N14 Nq15
  refine own_stW (T' := T15) (g' := (mkF m 273 #[iv shape, .val (.long pp), .second, iv pat, rv va, iv b_1, iv b_2, iv b_3, iv b_4, iv (2 : Int32), rv b10] [(.int (1 : Int32))])) st15 ?_
  clear st15
  refine own_stW (T' := T15) (g' := (mkF m 276 #[iv shape, .val (.long pp), .second, iv pat, rv va, iv b_1, iv b_2, iv b_3, iv b_4, iv (2 : Int32), rv b10] [])) (fun _ k_ => XS.ifNo X15.here hx rfl (hb hby at_273) rfl ((if0 _ _).trans (feq (by decide : ¬ ((1 : Int32) = (0 : Int32)))).1) k_) ?_
  refine own_stW (T' := T15) (g' := (mkF m 278 #[iv shape, .val (.long pp), .second, iv pat, rv va, iv b_1, iv b_2, iv b_3, iv b_4, iv (2 : Int32), rv b10] [(.ref b10)])) (fun _ k_ => XS.aload X15.here hx rfl (hb hby at_276) rfl rfl  k_) ?_
  refine own_stW (T' := T15) (g' := (mkF m 280 #[iv shape, .val (.long pp), .second, iv pat, rv va, iv b_1, iv b_2, iv b_3, iv b_4, iv (2 : Int32), rv b10] [(.ref va), (.ref b10)])) (fun _ k_ => XS.aload X15.here hx rfl (hb hby at_278) rfl rfl  k_) ?_
  refine own_stW (T' := T15) (g' := (mkF m 282 #[iv shape, .val (.long pp), .second, iv pat, rv va, iv b_1, iv b_2, iv b_3, iv b_4, iv (2 : Int32), rv b10] [(.int (2 : Int32)), (.ref va), (.ref b10)])) (fun _ k_ => XS.iload X15.here hx rfl (hb hby at_280) rfl  k_) ?_
  refine own_stW (T' := T15) (g' := (mkF m 283 #[iv shape, .val (.long pp), .second, iv pat, rv va, iv b_1, iv b_2, iv b_3, iv b_4, iv (2 : Int32), rv b10] [(.int (1 : Int32)), (.int (2 : Int32)), (.ref va), (.ref b10)])) (fun _ k_ => XS.iconst X15.here hx rfl (hb hby at_282) k_) ?_
  obtain ⟨_, T16, L16, X16, hQ16, st16⟩ := own_callS X15 hx (y := own_m25) hown (mvT hZ (hw _ (List.mem_of_getElem? (i := 112) rfl))) (mvT hZ (hw _ (List.mem_of_getElem? (i := 113) rfl))) (mvT hZ (hw _ (List.mem_of_getElem? (i := 3) rfl))) (mvT hZ (hw _ (List.mem_of_getElem? (i := 114) rfl))) (by decide) (backOf (W := 0) (rm_at0 l Z a0 hw [] b10 va (2 : Int32) (1 : Int32) T10.heap n0 f13 (by decide)) hZ (hw _ (List.mem_of_getElem? (i := 114) rfl)) (hw _ (List.mem_of_getElem? (i := 3) rfl)) (by decide) (by decide)) (g := (mkF m 283 #[iv shape, .val (.long pp), .second, iv pat, rv va, iv b_1, iv b_2, iv b_3, iv b_4, iv (2 : Int32), rv b10] [(.int (1 : Int32)), (.int (2 : Int32)), (.ref va), (.ref b10)])) rfl (by rw [hml]; rfl) (argsL := [(.ref b10), (.ref va), (.int (2 : Int32)), (.int (1 : Int32))]) (rest := []) (lenOf pd__Ljava_lang_String__CII_Z rfl) rfl (by show 2 * 0 + _ ≤ _; exact Nat.le_of_eq rfl) (hb hby at_283) rfl eq15 (by decide) (by decide) (c' := 7) (s' := 311) rfl rfl
  obtain ⟨rfl, Nq16, eq16⟩ := hQ16
  have N16 := Fr.app N15 Nq16
  refine own_stW (T' := T16) (g' := (mkF m 286 #[iv shape, .val (.long pp), .second, iv pat, rv va, iv b_1, iv b_2, iv b_3, iv b_4, iv (2 : Int32), rv b10] [(.int (1 : Int32))])) st16 ?_
  clear st16
  refine own_stW (T' := T16) (g' := (mkF m 289 #[iv shape, .val (.long pp), .second, iv pat, rv va, iv b_1, iv b_2, iv b_3, iv b_4, iv (2 : Int32), rv b10] [])) (fun _ k_ => XS.ifNo X16.here hx rfl (hb hby at_286) rfl ((if0 _ _).trans (feq (by decide : ¬ ((1 : Int32) = (0 : Int32)))).1) k_) ?_
  refine own_stW (T' := T16) (g' := (mkF m 291 #[iv shape, .val (.long pp), .second, iv pat, rv va, iv b_1, iv b_2, iv b_3, iv b_4, iv (2 : Int32), rv b10] [(.ref b10)])) (fun _ k_ => XS.aload X16.here hx rfl (hb hby at_289) rfl rfl  k_) ?_
  refine own_stW (T' := T16) (g' := (mkF m 293 #[iv shape, .val (.long pp), .second, iv pat, rv va, iv b_1, iv b_2, iv b_3, iv b_4, iv (2 : Int32), rv b10] [(.ref va), (.ref b10)])) (fun _ k_ => XS.aload X16.here hx rfl (hb hby at_291) rfl rfl  k_) ?_
  refine own_stW (T' := T16) (g' := (mkF m 295 #[iv shape, .val (.long pp), .second, iv pat, rv va, iv b_1, iv b_2, iv b_3, iv b_4, iv (2 : Int32), rv b10] [(.int (2 : Int32)), (.ref va), (.ref b10)])) (fun _ k_ => XS.iload X16.here hx rfl (hb hby at_293) rfl  k_) ?_
  refine own_stW (T' := T16) (g' := (mkF m 296 #[iv shape, .val (.long pp), .second, iv pat, rv va, iv b_1, iv b_2, iv b_3, iv b_4, iv (2 : Int32), rv b10] [(.int (2 : Int32)), (.int (2 : Int32)), (.ref va), (.ref b10)])) (fun _ k_ => XS.iconst X16.here hx rfl (hb hby at_295) k_) ?_
  obtain ⟨_, T17, L17, X17, hQ17, st17⟩ := own_callS X16 hx (y := own_m25) hown (mvT hZ (hw _ (List.mem_of_getElem? (i := 112) rfl))) (mvT hZ (hw _ (List.mem_of_getElem? (i := 113) rfl))) (mvT hZ (hw _ (List.mem_of_getElem? (i := 3) rfl))) (mvT hZ (hw _ (List.mem_of_getElem? (i := 114) rfl))) (by decide) (backOf (W := 0) (rm_at0 l Z a0 hw [] b10 va (2 : Int32) (2 : Int32) T10.heap n0 f13 (by decide)) hZ (hw _ (List.mem_of_getElem? (i := 114) rfl)) (hw _ (List.mem_of_getElem? (i := 3) rfl)) (by decide) (by decide)) (g := (mkF m 296 #[iv shape, .val (.long pp), .second, iv pat, rv va, iv b_1, iv b_2, iv b_3, iv b_4, iv (2 : Int32), rv b10] [(.int (2 : Int32)), (.int (2 : Int32)), (.ref va), (.ref b10)])) rfl (by rw [hml]; rfl) (argsL := [(.ref b10), (.ref va), (.int (2 : Int32)), (.int (2 : Int32))]) (rest := []) (lenOf pd__Ljava_lang_String__CII_Z rfl) rfl (by show 2 * 0 + _ ≤ _; exact Nat.le_of_eq rfl) (hb hby at_296) rfl eq16 (by decide) (by decide) (c' := 7) (s' := 311) rfl rfl
  obtain ⟨rfl, Nq17, eq17⟩ := hQ17
  have N17 := Fr.app N16 Nq17
  refine own_stW (T' := T17) (g' := (mkF m 299 #[iv shape, .val (.long pp), .second, iv pat, rv va, iv b_1, iv b_2, iv b_3, iv b_4, iv (2 : Int32), rv b10] [(.int (1 : Int32))])) st17 ?_
  clear st17
  refine own_stW (T' := T17) (g' := (mkF m 302 #[iv shape, .val (.long pp), .second, iv pat, rv va, iv b_1, iv b_2, iv b_3, iv b_4, iv (2 : Int32), rv b10] [])) (fun _ k_ => XS.ifNo X17.here hx rfl (hb hby at_299) rfl ((if0 _ _).trans (feq (by decide : ¬ ((1 : Int32) = (0 : Int32)))).1) k_) ?_
  refine own_stW (T' := T17) (g' := (mkF m 304 #[iv shape, .val (.long pp), .second, iv pat, rv va, iv b_1, iv b_2, iv b_3, iv b_4, iv (2 : Int32), rv b10] [(.ref b10)])) (fun _ k_ => XS.aload X17.here hx rfl (hb hby at_302) rfl rfl  k_) ?_
  refine own_stW (T' := T17) (g' := (mkF m 306 #[iv shape, .val (.long pp), .second, iv pat, rv va, iv b_1, iv b_2, iv b_3, iv b_4, iv (2 : Int32), rv b10] [(.ref va), (.ref b10)])) (fun _ k_ => XS.aload X17.here hx rfl (hb hby at_304) rfl rfl  k_) ?_
  refine own_stW (T' := T17) (g' := (mkF m 308 #[iv shape, .val (.long pp), .second, iv pat, rv va, iv b_1, iv b_2, iv b_3, iv b_4, iv (2 : Int32), rv b10] [(.int (2 : Int32)), (.ref va), (.ref b10)])) (fun _ k_ => XS.iload X17.here hx rfl (hb hby at_306) rfl  k_) ?_
  refine own_stW (T' := T17) (g' := (mkF m 309 #[iv shape, .val (.long pp), .second, iv pat, rv va, iv b_1, iv b_2, iv b_3, iv b_4, iv (2 : Int32), rv b10] [(.int (3 : Int32)), (.int (2 : Int32)), (.ref va), (.ref b10)])) (fun _ k_ => XS.iconst X17.here hx rfl (hb hby at_308) k_) ?_
  have ne18 : va ≠ b1 := Nat.ne_of_lt (Nat.lt_of_lt_of_le VA.lt (Nat.le_of_eq g1.symm))
  have f19 : Arv Z T6.heap va kc .char (6 : Int32) [(.int c0), (.int c1), (.int (58 : Int32)), (.int c3), (.int c4), (.int c5)] (.int (0 : Int32)) := f4.keep K6 (ninS ne18 nin0)
  have f20 : Arv Z T10.heap va kc .char (6 : Int32) [(.int c0), (.int c1), (.int (58 : Int32)), (.int c3), (.int c4), (.int c5)] (.int (0 : Int32)) := f19.keep K10 nin0
  obtain ⟨_, T21, L21, X21, hQ21, st21⟩ := own_callS X17 hx (y := own_m25) hown (mvT hZ (hw _ (List.mem_of_getElem? (i := 112) rfl))) (mvT hZ (hw _ (List.mem_of_getElem? (i := 113) rfl))) (mvT hZ (hw _ (List.mem_of_getElem? (i := 3) rfl))) (mvT hZ (hw _ (List.mem_of_getElem? (i := 114) rfl))) (by decide) (backOf (W := 0) (rm_at_3 l Z a0 hw [] b10 va (2 : Int32) u10 ku10 ([c3, c4, c5] : List Int32) 0 kc c0 c1 (58 : Int32) c3 c4 c5 cz fm T10.heap n0 f13 fq10_0 fq10_2 fq10_1 fq10_3 f20 (own_cRS hr3 (own_cRS hr4 (own_cRS hr5 own_cR0))) (Nat.le_of_ble_eq_true rfl) (by decide) (Nat.le_of_ble_eq_true rfl) (by decide) rfl SC hcz SF hfm) hZ (hw _ (List.mem_of_getElem? (i := 114) rfl)) (hw _ (List.mem_of_getElem? (i := 3) rfl)) (by decide) (by decide)) (g := (mkF m 309 #[iv shape, .val (.long pp), .second, iv pat, rv va, iv b_1, iv b_2, iv b_3, iv b_4, iv (2 : Int32), rv b10] [(.int (3 : Int32)), (.int (2 : Int32)), (.ref va), (.ref b10)])) rfl (by rw [hml]; rfl) (argsL := [(.ref b10), (.ref va), (.int (2 : Int32)), (.int (3 : Int32))]) (rest := []) (lenOf pd__Ljava_lang_String__CII_Z rfl) rfl (by show 2 * 0 + _ ≤ _; exact Nat.le_of_eq rfl) (hb hby at_309) rfl eq17 (by decide) (by decide) (c' := 7) (s' := 311) rfl rfl
  obtain ⟨rfl, Nq21, eq21⟩ := hQ21
  have N21 := Fr.app N17 Nq21
  refine own_stW (T' := T21) (g' := (mkF m 312 #[iv shape, .val (.long pp), .second, iv pat, rv va, iv b_1, iv b_2, iv b_3, iv b_4, iv (2 : Int32), rv b10] [(.int (1 : Int32))])) st21 ?_
  clear st21
  refine own_stW (T' := T21) (g' := (mkF m 315 #[iv shape, .val (.long pp), .second, iv pat, rv va, iv b_1, iv b_2, iv b_3, iv b_4, iv (2 : Int32), rv b10] [])) (fun _ k_ => XS.ifNo X21.here hx rfl (hb hby at_312) rfl ((if0 _ _).trans (feq (by decide : ¬ ((1 : Int32) = (0 : Int32)))).1) k_) ?_
  refine own_stW (T' := T21) (g' := (mkF m 317 #[iv shape, .val (.long pp), .second, iv pat, rv va, iv b_1, iv b_2, iv b_3, iv b_4, iv (2 : Int32), rv b10] [(.ref b10)])) (fun _ k_ => XS.aload X21.here hx rfl (hb hby at_315) rfl rfl  k_) ?_
  refine own_stW (T' := T21) (g' := (mkF m 319 #[iv shape, .val (.long pp), .second, iv pat, rv va, iv b_1, iv b_2, iv b_3, iv b_4, iv (2 : Int32), rv b10] [(.ref va), (.ref b10)])) (fun _ k_ => XS.aload X21.here hx rfl (hb hby at_317) rfl rfl  k_) ?_
  refine own_stW (T' := T21) (g' := (mkF m 321 #[iv shape, .val (.long pp), .second, iv pat, rv va, iv b_1, iv b_2, iv b_3, iv b_4, iv (2 : Int32), rv b10] [(.int (2 : Int32)), (.ref va), (.ref b10)])) (fun _ k_ => XS.iload X21.here hx rfl (hb hby at_319) rfl  k_) ?_
  refine own_stW (T' := T21) (g' := (mkF m 322 #[iv shape, .val (.long pp), .second, iv pat, rv va, iv b_1, iv b_2, iv b_3, iv b_4, iv (2 : Int32), rv b10] [(.int (4 : Int32)), (.int (2 : Int32)), (.ref va), (.ref b10)])) (fun _ k_ => XS.iconst X21.here hx rfl (hb hby at_321) k_) ?_
  obtain ⟨_, T22, L22, X22, hQ22, st22⟩ := own_callS X21 hx (y := own_m25) hown (mvT hZ (hw _ (List.mem_of_getElem? (i := 112) rfl))) (mvT hZ (hw _ (List.mem_of_getElem? (i := 113) rfl))) (mvT hZ (hw _ (List.mem_of_getElem? (i := 3) rfl))) (mvT hZ (hw _ (List.mem_of_getElem? (i := 114) rfl))) (by decide) (backOf (W := 0) (rm_at_4 l Z a0 hw [] b10 va (2 : Int32) u10 ku10 ([c3, c4, c5] : List Int32) 1 kc c0 c1 (58 : Int32) c3 c4 c5 cz fm T10.heap n0 f13 fq10_0 fq10_2 fq10_1 fq10_3 f20 (own_cRS hr3 (own_cRS hr4 (own_cRS hr5 own_cR0))) (Nat.le_of_ble_eq_true rfl) (by decide) (Nat.le_of_ble_eq_true rfl) (by decide) rfl SC hcz SF hfm) hZ (hw _ (List.mem_of_getElem? (i := 114) rfl)) (hw _ (List.mem_of_getElem? (i := 3) rfl)) (by decide) (by decide)) (g := (mkF m 322 #[iv shape, .val (.long pp), .second, iv pat, rv va, iv b_1, iv b_2, iv b_3, iv b_4, iv (2 : Int32), rv b10] [(.int (4 : Int32)), (.int (2 : Int32)), (.ref va), (.ref b10)])) rfl (by rw [hml]; rfl) (argsL := [(.ref b10), (.ref va), (.int (2 : Int32)), (.int (4 : Int32))]) (rest := []) (lenOf pd__Ljava_lang_String__CII_Z rfl) rfl (by show 2 * 0 + _ ≤ _; exact Nat.le_of_eq rfl) (hb hby at_322) rfl eq21 (by decide) (by decide) (c' := 7) (s' := 311) rfl rfl
  obtain ⟨rfl, Nq22, eq22⟩ := hQ22
  have N22 := Fr.app N21 Nq22
  refine own_stW (T' := T22) (g' := (mkF m 325 #[iv shape, .val (.long pp), .second, iv pat, rv va, iv b_1, iv b_2, iv b_3, iv b_4, iv (2 : Int32), rv b10] [(.int (1 : Int32))])) st22 ?_
  clear st22
  refine own_stW (T' := T22) (g' := (mkF m 328 #[iv shape, .val (.long pp), .second, iv pat, rv va, iv b_1, iv b_2, iv b_3, iv b_4, iv (2 : Int32), rv b10] [])) (fun _ k_ => XS.ifNo X22.here hx rfl (hb hby at_325) rfl ((if0 _ _).trans (feq (by decide : ¬ ((1 : Int32) = (0 : Int32)))).1) k_) ?_
  refine own_stW (T' := T22) (g' := (mkF m 330 #[iv shape, .val (.long pp), .second, iv pat, rv va, iv b_1, iv b_2, iv b_3, iv b_4, iv (2 : Int32), rv b10] [(.ref b10)])) (fun _ k_ => XS.aload X22.here hx rfl (hb hby at_328) rfl rfl  k_) ?_
  refine own_stW (T' := T22) (g' := (mkF m 332 #[iv shape, .val (.long pp), .second, iv pat, rv va, iv b_1, iv b_2, iv b_3, iv b_4, iv (2 : Int32), rv b10] [(.ref va), (.ref b10)])) (fun _ k_ => XS.aload X22.here hx rfl (hb hby at_330) rfl rfl  k_) ?_
  refine own_stW (T' := T22) (g' := (mkF m 334 #[iv shape, .val (.long pp), .second, iv pat, rv va, iv b_1, iv b_2, iv b_3, iv b_4, iv (2 : Int32), rv b10] [(.int (2 : Int32)), (.ref va), (.ref b10)])) (fun _ k_ => XS.iload X22.here hx rfl (hb hby at_332) rfl  k_) ?_
  refine own_stW (T' := T22) (g' := (mkF m 335 #[iv shape, .val (.long pp), .second, iv pat, rv va, iv b_1, iv b_2, iv b_3, iv b_4, iv (2 : Int32), rv b10] [(.int (5 : Int32)), (.int (2 : Int32)), (.ref va), (.ref b10)])) (fun _ k_ => XS.iconst X22.here hx rfl (hb hby at_334) k_) ?_
  obtain ⟨_, T23, L23, X23, hQ23, st23⟩ := own_callS X22 hx (y := own_m25) hown (mvT hZ (hw _ (List.mem_of_getElem? (i := 112) rfl))) (mvT hZ (hw _ (List.mem_of_getElem? (i := 113) rfl))) (mvT hZ (hw _ (List.mem_of_getElem? (i := 3) rfl))) (mvT hZ (hw _ (List.mem_of_getElem? (i := 114) rfl))) (by decide) (backOf (W := 0) (rm_at_5 l Z a0 hw [] b10 va (2 : Int32) u10 ku10 ([c3, c4, c5] : List Int32) 2 kc c0 c1 (58 : Int32) c3 c4 c5 cz fm T10.heap n0 f13 fq10_0 fq10_2 fq10_1 fq10_3 f20 (own_cRS hr3 (own_cRS hr4 (own_cRS hr5 own_cR0))) (Nat.le_of_ble_eq_true rfl) (by decide) (Nat.le_of_ble_eq_true rfl) (by decide) rfl SC hcz SF hfm) hZ (hw _ (List.mem_of_getElem? (i := 114) rfl)) (hw _ (List.mem_of_getElem? (i := 3) rfl)) (by decide) (by decide)) (g := (mkF m 335 #[iv shape, .val (.long pp), .second, iv pat, rv va, iv b_1, iv b_2, iv b_3, iv b_4, iv (2 : Int32), rv b10] [(.int (5 : Int32)), (.int (2 : Int32)), (.ref va), (.ref b10)])) rfl (by rw [hml]; rfl) (argsL := [(.ref b10), (.ref va), (.int (2 : Int32)), (.int (5 : Int32))]) (rest := []) (lenOf pd__Ljava_lang_String__CII_Z rfl) rfl (by show 2 * 0 + _ ≤ _; exact Nat.le_of_eq rfl) (hb hby at_335) rfl eq22 (by decide) (by decide) (c' := 7) (s' := 311) rfl rfl
  obtain ⟨rfl, Nq23, eq23⟩ := hQ23
  have N23 := Fr.app N22 Nq23
  refine own_stW (T' := T23) (g' := (mkF m 338 #[iv shape, .val (.long pp), .second, iv pat, rv va, iv b_1, iv b_2, iv b_3, iv b_4, iv (2 : Int32), rv b10] [(.int (1 : Int32))])) st23 ?_
  clear st23
  refine own_stW (T' := T23) (g' := (mkF m 341 #[iv shape, .val (.long pp), .second, iv pat, rv va, iv b_1, iv b_2, iv b_3, iv b_4, iv (2 : Int32), rv b10] [])) (fun _ k_ => XS.ifNo X23.here hx rfl (hb hby at_338) rfl ((if0 _ _).trans (feq (by decide : ¬ ((1 : Int32) = (0 : Int32)))).1) k_) ?_
  refine own_stW (T' := T23) (g' := (mkF m 342 #[iv shape, .val (.long pp), .second, iv pat, rv va, iv b_1, iv b_2, iv b_3, iv b_4, iv (2 : Int32), rv b10] [(.int (1 : Int32))])) (fun _ k_ => XS.iconst X23.here hx rfl (hb hby at_341) k_) ?_
  refine own_stW (T' := T23) (g' := (mkF m 346 #[iv shape, .val (.long pp), .second, iv pat, rv va, iv b_1, iv b_2, iv b_3, iv b_4, iv (2 : Int32), rv b10] [(.int (1 : Int32))])) (fun _ k_ => XS.goto X23.here hx rfl (pc0 := 342) (pc' := 346) rfl (hb hby at_342) (by decide) (by decide) k_) ?_
  exact own_retNW X23 hZ hS0 (by rw [eq23]; exact (Nat.le_trans (Nat.le_trans (Nat.le_trans hk0 E1.1) K6.1) K10.1)) hEL (by rw [eq23]; exact CR11) hx (t := .boolean) hret (by simp) hlk (hb hby at_346) (by decide) (by decide) ⟨rfl, N23⟩
set_option maxRecDepth 65536 in
set_option maxHeartbeats 40000000 in
theorem seg_t3 {p : Program} {l : Launch} {e : Env} {s : State} {m : MethodId} {args : Array Value} {below : List Frame} {meth : Method} {c : Code} {T0 : State} {locs : List Loc} {Z : State} {a0 : Array Value} {vm0 : Vm} {k0 : Nat} (h0 : Heap) (hB : Heap) (n0 : Nat) (shape : Int32) (pp : Int64) (pat : Int32) (va : Addr) (kc : ClassId) (b_1 : Int32) (b_2 : Int32) (b_3 : Int32) (b_4 : Int32) (c0 : Int32) (c1 : Int32) (c2 : Int32) (c4 : Int32) (c5 : Int32) (cz : Int32) (fm : Value)
    (X0 : Stand p l e room_1 (s.setVm vm0) m args below meth c T0 locs 3 294) (hx : p.tables.exec = Jvm.exec) (hZs : Z.Warmed39 s.vm) (hZ : Z.Warmed39 (s.setVm vm0).vm) (hS0 : s.Since vm0 k0) (hk0 : k0 ≤ hB.size) (CR0 : CHr Z consts_1 s.vm h0 vm0 hB) (hw : ∀ d ∈ tables_1, d.before a0 Z = true) (hby : c.code = code) (hml : c.maxLocals = 11) (howns : s.vm.findClass "com/example/sheafgate/sheafgate/store/SetSpecsLastPartPinLaw" = some m.cls) (hown : (s.setVm vm0).vm.findClass "com/example/sheafgate/sheafgate/store/SetSpecsLastPartPinLaw" = some m.cls) (hnm : meth.name = "law") (hret : meth.sig.returnType = some .boolean) (hlk : meth.locks = false) (e0 : T0.heap = hB) (N0 : Fr n0 locs) (O0 : Old Z n0 hB) (hr0 : ¬ c0 < 0 ∧ ¬ (255 : Int32) < c0) (hr1 : ¬ c1 < 0 ∧ ¬ (255 : Int32) < c1) (hr2 : ¬ c2 < 0 ∧ ¬ (255 : Int32) < c2) (hr4 : ¬ c4 < 0 ∧ ¬ (255 : Int32) < c4) (hr5 : ¬ c5 < 0 ∧ ¬ (255 : Int32) < c5) (hn4 : ¬ (c4.toInt8.toInt32) = ((58 : Int32).toInt8.toInt32)) (hn5 : ¬ (c5.toInt8.toInt32) = ((58 : Int32).toInt8.toInt32)) (VA : Arv Z hB va kc .char (6 : Int32) [(.int c0), (.int c1), (.int c2), (.int (58 : Int32)), (.int c4), (.int c5)] (.int (0 : Int32))) (SC : Sta Z Z.heap "java/lang/String" "COMPACT_STRINGS" "Z" (.int cz)) (hcz : ¬ cz = (0 : Int32)) (SF : Sta Z Z.heap "jdk/internal/util/Preconditions" "SIOOBE_FORMATTER" "Ljava/util/function/BiFunction;" fm) (hfm : fm.isRef = true) :
    own_W p e below s room_1.cells room_1.slots Z consts_1 h0 (own_L n0) T0 (mkF m 235 #[iv shape, .val (.long pp), .second, iv pat, rv va, iv b_1, iv b_2, iv b_3, iv b_4, iv (3 : Int32), .unset] []) := by
  have hEL := own_EW hw
  obtain ⟨T1, h1, X1, e1, E1, A1, D1, -, st1⟩ := newO X0 hx hZ hown (hw _ (List.mem_of_getElem? (i := 40) rfl)) (hw _ (List.mem_of_getElem? (i := 7) rfl)) (hw _ (List.mem_of_getElem? (i := 6) rfl)) e0 (g := (mkF m 235 #[iv shape, .val (.long pp), .second, iv pat, rv va, iv b_1, iv b_2, iv b_3, iv b_4, iv (3 : Int32), .unset] [])) rfl (hb hby at_235) (by decide) (by decide)
  obtain ⟨b1, g1⟩ : ∃ z, z = hB.size := ⟨_, rfl⟩
  rw [← g1] at A1 D1 st1
  have fr1 : n0 ≤ b1 := Nat.le_trans (own_z O0) (Nat.le_of_eq g1.symm)
  have CR2 : CHr Z consts_1 s.vm h0 vm0 h1 := CR0.trans (CHr.ext E1 CR0.1)
  have sf3 : Safe Z consts_1 vm0 h1 b1 := Safe.ext E1 CR0.1 (Safe.new (Nat.le_of_eq g1.symm))
  have F1_value : Fld Z h1 b1 "java/lang/String" "value" "[B" .null := D1 (Or.inr (hw _ (List.mem_of_getElem? (i := 9) rfl))) (ty := (.array .byte)) (by decide)
  have F1_coder : Fld Z h1 b1 "java/lang/String" "coder" "B" (.int (0 : Int32)) := D1 (Or.inr (hw _ (List.mem_of_getElem? (i := 10) rfl))) (ty := .byte) (by decide)
  refine own_stW (T' := T1) (g' := (mkF m 238 #[iv shape, .val (.long pp), .second, iv pat, rv va, iv b_1, iv b_2, iv b_3, iv b_4, iv (3 : Int32), .unset] [(.ref b1)])) st1 ?_
  clear st1
  refine own_stW (T' := T1) (g' := (mkF m 239 #[iv shape, .val (.long pp), .second, iv pat, rv va, iv b_1, iv b_2, iv b_3, iv b_4, iv (3 : Int32), .unset] [(.ref b1), (.ref b1)])) (fun _ k_ => XS.dup X1.here hx rfl (hb hby at_238) rfl rfl k_) ?_
  refine own_stW (T' := T1) (g' := (mkF m 241 #[iv shape, .val (.long pp), .second, iv pat, rv va, iv b_1, iv b_2, iv b_3, iv b_4, iv (3 : Int32), .unset] [(.ref va), (.ref b1), (.ref b1)])) (fun _ k_ => XS.aload X1.here hx rfl (hb hby at_239) rfl rfl  k_) ?_
  have f4 : Arv Z h1 va kc .char (6 : Int32) [(.int c0), (.int c1), (.int c2), (.int (58 : Int32)), (.int c4), (.int c5)] (.int (0 : Int32)) := VA.ext E1
  have f5 : Old Z n0 h1 := O0.ext E1
  obtain ⟨_, T6, L6, X6, hQ6, st6⟩ := own_callI X1 hx (y := own_m4) rfl hown (mvT hZ (hw _ (List.mem_of_getElem? (i := 41) rfl))) (mvT hZ (hw _ (List.mem_of_getElem? (i := 42) rfl))) (mvT hZ (hw _ (List.mem_of_getElem? (i := 43) rfl))) (by decide) (backOf (W := 1) (rm_ini1_6 l Z a0 hw [] b1 va kc cz c0 c1 c2 (58 : Int32) c4 c5 h1 n0 f5 A1 F1_value F1_coder fr1 f4 SC hcz hr0.2 hr1.2 hr2.2 (by decide) hr4.2 hr5.2) hZ (hw _ (List.mem_of_getElem? (i := 43) rfl)) (hw _ (List.mem_of_getElem? (i := 6) rfl)) (by decide) (by decide)) (g := (mkF m 241 #[iv shape, .val (.long pp), .second, iv pat, rv va, iv b_1, iv b_2, iv b_3, iv b_4, iv (3 : Int32), .unset] [(.ref va), (.ref b1), (.ref b1)])) rfl (by rw [hml]; rfl) (a := b1) (argsL := [(.ref va)]) (rest := [(.ref b1)]) (lenOf pd___C_V rfl) rfl (by show 2 * 0 + _ ≤ _; exact Nat.le_of_eq rfl) (hb hby at_241) rfl e1 (by decide) (by decide) (c' := 5) (s' := 304) rfl rfl
  obtain ⟨t6, kb6, rfl, Nq6, K6, fq6_0, fq6_1, fq6_2, fq6_3, xq6_fresh_t⟩ := hQ6
  have N6 := Fr.app N0 Nq6
  have CR7 : CHr Z consts_1 s.vm h0 vm0 T6.heap := CR2.trans (CHr.keep K6 (sfS sf3 sf0) CR2.1)
  have sf8 : Safe Z consts_1 vm0 T6.heap b1 := Safe.keep K6 (sfS sf3 sf0) CR2.1 sf3
  refine own_stW (T' := T6) (g' := (mkF m 244 #[iv shape, .val (.long pp), .second, iv pat, rv va, iv b_1, iv b_2, iv b_3, iv b_4, iv (3 : Int32), .unset] [(.ref b1)])) st6 ?_
  clear st6
  have f9 : Old Z n0 T6.heap := f5.keep K6 (allS fr1 all0)
  obtain ⟨_, T10, L10, X10, hQ10, st10⟩ := own_callS X6 hx (y := own_m21) hown (mvT hZ (hw _ (List.mem_of_getElem? (i := 61) rfl))) (mvT hZ (hw _ (List.mem_of_getElem? (i := 62) rfl))) (mvT hZ (hw _ (List.mem_of_getElem? (i := 63) rfl))) (mvT hZ (hw _ (List.mem_of_getElem? (i := 64) rfl))) (by decide) (backOf (W := 0) (rm_lp_3 l Z a0 hw [] b1 t6 kb6 c0 c1 c2 c4 c5 cz fm T6.heap n0 f9 fq6_0 fq6_2 fq6_1 fq6_3 hn4 hn5 SC hcz SF hfm) hZ (hw _ (List.mem_of_getElem? (i := 64) rfl)) (hw _ (List.mem_of_getElem? (i := 63) rfl)) (by decide) (by decide)) (g := (mkF m 244 #[iv shape, .val (.long pp), .second, iv pat, rv va, iv b_1, iv b_2, iv b_3, iv b_4, iv (3 : Int32), .unset] [(.ref b1)])) rfl (by rw [hml]; rfl) (argsL := [(.ref b1)]) (rest := []) (lenOf pd__Ljava_lang_String__Ljava_lang_String_ rfl) rfl (by show 2 * 0 + _ ≤ _; exact Nat.le_of_eq rfl) (hb hby at_244) rfl rfl (by decide) (by decide) (c' := 7) (s' := 310) rfl rfl
  obtain ⟨b10, u10, ku10, rfl, Nq10, K10, fq10_0, fq10_1, fq10_2, fq10_3, xq10_fresh_b⟩ := hQ10
  have N10 := Fr.app N6 Nq10
  have CR11 : CHr Z consts_1 s.vm h0 vm0 T10.heap := CR7.trans (CHr.keep K10 sf0 CR7.1)
  have sf12 : Safe Z consts_1 vm0 T10.heap b1 := Safe.keep K10 sf0 CR7.1 sf8
  refine own_stW (T' := T10) (g' := (mkF m 247 #[iv shape, .val (.long pp), .second, iv pat, rv va, iv b_1, iv b_2, iv b_3, iv b_4, iv (3 : Int32), .unset] [(.ref b10)])) st10 ?_
  clear st10
  refine own_stW (T' := T10) (g' := (mkF m 249 #[iv shape, .val (.long pp), .second, iv pat, rv va, iv b_1, iv b_2, iv b_3, iv b_4, iv (3 : Int32), rv b10] [])) (fun _ k_ => XS.astore X10.here hx rfl (hb hby at_247) rfl rfl (l' := #[iv shape, .val (.long pp), .second, iv pat, rv va, iv b_1, iv b_2, iv b_3, iv b_4, iv (3 : Int32), rv b10]) rfl k_) ?_
  refine own_stW (T' := T10) (g' := (mkF m 251 #[iv shape, .val (.long pp), .second, iv pat, rv va, iv b_1, iv b_2, iv b_3, iv b_4, iv (3 : Int32), rv b10] [(.ref b10)])) (fun _ k_ => XS.aload X10.here hx rfl (hb hby at_249) rfl rfl  k_) ?_
  have f13 : Old Z n0 T10.heap := f9.keep K10 all0
  obtain ⟨cq14, kq14, q14a, q14b, q14c⟩ := isOf hZ rfl fq10_0
  obtain ⟨_, T14, L14, X14, hQ14, st14⟩ := own_callV X10 hx (y := own_m6) (z := own_m6) hown (mvT hZ (hw _ (List.mem_of_getElem? (i := 111) rfl))) (mvT hZ (hw _ (List.mem_of_getElem? (i := 71) rfl))) (notFace_of_selects (args := #[]) (mvT hZ (hw _ (List.mem_of_getElem? (i := 73) rfl)))) (mvT hZ (hw _ (List.mem_of_getElem? (i := 73) rfl))) (mvT hZ (hw _ (List.mem_of_getElem? (i := 72) rfl))) (by decide) (backOf (W := 0) (rm_len l Z a0 hw [] b10 u10 ku10 (2 : Int32) [(.int (c4.toInt8.toInt32)), (.int (c5.toInt8.toInt32))] cz T10.heap n0 f13 fq10_0 fq10_2 fq10_1 fq10_3 SC hcz) hZ (hw _ (List.mem_of_getElem? (i := 74) rfl)) (hw _ (List.mem_of_getElem? (i := 6) rfl)) (by decide) (by decide)) q14a q14c (g := (mkF m 251 #[iv shape, .val (.long pp), .second, iv pat, rv va, iv b_1, iv b_2, iv b_3, iv b_4, iv (3 : Int32), rv b10] [(.ref b10)])) rfl (by rw [hml]; rfl) (argsL := []) (rest := []) (lenOf pd___I rfl) rfl (by show 2 * 0 + _ ≤ _; exact Nat.le_of_eq rfl) (hb hby at_251) rfl rfl (by decide) (by decide) (c' := 7) (s' := 310) rfl rfl
  clear q14a q14b q14c kq14 cq14
  obtain ⟨rfl, Nq14, eq14⟩ := hQ14
  have N14 := Fr.app N10 Nq14
  refine own_stW (T' := T14) (g' := (mkF m 254 #[iv shape, .val (.long pp), .second, iv pat, rv va, iv b_1, iv b_2, iv b_3, iv b_4, iv (3 : Int32), rv b10] [(.int (2 : Int32))])) st14 ?_
  clear st14
  refine own_stW (T' := T14) (g' := (mkF m 255 #[iv shape, .val (.long pp), .second, iv pat, rv va, iv b_1, iv b_2, iv b_3, iv b_4, iv (3 : Int32), rv b10] [(.int (5 : Int32)), (.int (2 : Int32))])) (fun _ k_ => XS.iconst X14.here hx rfl (hb hby at_254) k_) ?_
  refine own_stW (T' := T14) (g' := (mkF m 257 #[iv shape, .val (.long pp), .second, iv pat, rv va, iv b_1, iv b_2, iv b_3, iv b_4, iv (3 : Int32), rv b10] [(.int (3 : Int32)), (.int (5 : Int32)), (.int (2 : Int32))])) (fun _ k_ => XS.iload X14.here hx rfl (hb hby at_255) rfl  k_) ?_
  refine own_stW (T' := T14) (g' := (mkF m 258 #[iv shape, .val (.long pp), .second, iv pat, rv va, iv b_1, iv b_2, iv b_3, iv b_4, iv (3 : Int32), rv b10] [(.int (2 : Int32)), (.int (2 : Int32))])) (fun _ k_ => XS.isub X14.here hx rfl (hb hby at_257) rfl k_) ?_
  refine own_stW (T' := T14) (g' := (mkF m 263 #[iv shape, .val (.long pp), .second, iv pat, rv va, iv b_1, iv b_2, iv b_3, iv b_4, iv (3 : Int32), rv b10] [])) (fun _ k_ => XS.icmpYes X14.here hx rfl (pc0 := 258) (pc' := 263) rfl (hb hby at_258) rfl (teq (rfl : (2 : Int32) = (2 : Int32))).1 (by decide) (by decide) k_) ?_
  refine own_stW (T' := T14) (g' := (mkF m 265 #[iv shape, .val (.long pp), .second, iv pat, rv va, iv b_1, iv b_2, iv b_3, iv b_4, iv (3 : Int32), rv b10] [(.ref b10)])) (fun _ k_ => XS.aload X14.here hx rfl (hb hby at_263) rfl rfl  k_) ?_
  refine own_stW (T' := T14) (g' := (mkF m 267 #[iv shape, .val (.long pp), .second, iv pat, rv va, iv b_1, iv b_2, iv b_3, iv b_4, iv (3 : Int32), rv b10] [(.ref va), (.ref b10)])) (fun _ k_ => XS.aload X14.here hx rfl (hb hby at_265) rfl rfl  k_) ?_
  refine own_stW (T' := T14) (g' := (mkF m 269 #[iv shape, .val (.long pp), .second, iv pat, rv va, iv b_1, iv b_2, iv b_3, iv b_4, iv (3 : Int32), rv b10] [(.int (3 : Int32)), (.ref va), (.ref b10)])) (fun _ k_ => XS.iload X14.here hx rfl (hb hby at_267) rfl  k_) ?_
  refine own_stW (T' := T14) (g' := (mkF m 270 #[iv shape, .val (.long pp), .second, iv pat, rv va, iv b_1, iv b_2, iv b_3, iv b_4, iv (3 : Int32), rv b10] [(.int (0 : Int32)), (.int (3 : Int32)), (.ref va), (.ref b10)])) (fun _ k_ => XS.iconst X14.here hx rfl (hb hby at_269) k_) ?_
  obtain ⟨_, T15, L15, X15, hQ15, st15⟩ := own_callS X14 hx (y := own_m25) hown (mvT hZ (hw _ (List.mem_of_getElem? (i := 112) rfl))) (mvT hZ (hw _ (List.mem_of_getElem? (i := 113) rfl))) (mvT hZ (hw _ (List.mem_of_getElem? (i := 3) rfl))) (mvT hZ (hw _ (List.mem_of_getElem? (i := 114) rfl))) (by decide) (backOf (W := 0) (rm_at0 l Z a0 hw [] b10 va (3 : Int32) (0 : Int32) T10.heap n0 f13 (by decide)) hZ (hw _ (List.mem_of_getElem? (i := 114) rfl)) (hw _ (List.mem_of_getElem? (i := 3) rfl)) (by decide) (by decide)) (g := (mkF m 270 #[iv shape, .val (.long pp), .second, iv pat, rv va, iv b_1, iv b_2, iv b_3, iv b_4, iv (3 : Int32), rv b10] [(.int (0 : Int32)), (.int (3 : Int32)), (.ref va), (.ref b10)])) rfl (by rw [hml]; rfl) (argsL := [(.ref b10), (.ref va), (.int (3 : Int32)), (.int (0 : Int32))]) (rest := []) (lenOf pd__Ljava_lang_String__CII_Z rfl) rfl (by show 2 * 0 + _ ≤ _; exact Nat.le_of_eq rfl) (hb hby at_270) rfl eq14 (by decide) (by decide) (c' := 7) (s' := 310) rfl rfl
  obtain ⟨rfl, Nq15, eq15⟩ := hQ15
  have N15 := Fr.app N14 Nq15
  refine own_stW (T' := T15) (g' := (mkF m 273 #[iv shape, .val (.long pp), .second, iv pat, rv va, iv b_1, iv b_2, iv b_3, iv b_4, iv (3 : Int32), rv b10] [(.int (1 : Int32))])) st15 ?_
  clear st15
  refine own_stW (T' := T15) (g' := (mkF m 276 #[iv shape, .val (.long pp), .second, iv pat, rv va, iv b_1, iv b_2, iv b_3, iv b_4, iv (3 : Int32), rv b10] [])) (fun _ k_ => XS.ifNo X15.here hx rfl (hb hby at_273) rfl ((if0 _ _).trans (feq (by decide : ¬ ((1 : Int32) = (0 : Int32)))).1) k_) ?_
  refine own_stW (T' := T15) (g' := (mkF m 278 #[iv shape, .val (.long pp), .second, iv pat, rv va, iv b_1, iv b_2, iv b_3, iv b_4, iv (3 : Int32), rv b10] [(.ref b10)])) (fun _ k_ => XS.aload X15.here hx rfl (hb hby at_276) rfl rfl  k_) ?_
  refine own_stW (T' := T15) (g' := (mkF m 280 #[iv shape, .val (.long pp), .second, iv pat, rv va, iv b_1, iv b_2, iv b_3, iv b_4, iv (3 : Int32), rv b10] [(.ref va), (.ref b10)])) (fun _ k_ => XS.aload X15.here hx rfl (hb hby at_278) rfl rfl  k_) ?_
  refine own_stW (T' := T15) (g' := (mkF m 282 #[iv shape, .val (.long pp), .second, iv pat, rv va, iv b_1, iv b_2, iv b_3, iv b_4, iv (3 : Int32), rv b10] [(.int (3 : Int32)), (.ref va), (.ref b10)])) (fun _ k_ => XS.iload X15.here hx rfl (hb hby at_280) rfl  k_) ?_
  refine own_stW (T' := T15) (g' := (mkF m 283 #[iv shape, .val (.long pp), .second, iv pat, rv va, iv b_1, iv b_2, iv b_3, iv b_4, iv (3 : Int32), rv b10] [(.int (1 : Int32)), (.int (3 : Int32)), (.ref va), (.ref b10)])) (fun _ k_ => XS.iconst X15.here hx rfl (hb hby at_282) k_) ?_
  obtain ⟨_, T16, L16, X16, hQ16, st16⟩ := own_callS X15 hx (y := own_m25) hown (mvT hZ (hw _ (List.mem_of_getElem? (i := 112) rfl))) (mvT hZ (hw _ (List.mem_of_getElem? (i := 113) rfl))) (mvT hZ (hw _ (List.mem_of_getElem? (i := 3) rfl))) (mvT hZ (hw _ (List.mem_of_getElem? (i := 114) rfl))) (by decide) (backOf (W := 0) (rm_at0 l Z a0 hw [] b10 va (3 : Int32) (1 : Int32) T10.heap n0 f13 (by decide)) hZ (hw _ (List.mem_of_getElem? (i := 114) rfl)) (hw _ (List.mem_of_getElem? (i := 3) rfl)) (by decide) (by decide)) (g := (mkF m 283 #[iv shape, .val (.long pp), .second, iv pat, rv va, iv b_1, iv b_2, iv b_3, iv b_4, iv (3 : Int32), rv b10] [(.int (1 : Int32)), (.int (3 : Int32)), (.ref va), (.ref b10)])) rfl (by rw [hml]; rfl) (argsL := [(.ref b10), (.ref va), (.int (3 : Int32)), (.int (1 : Int32))]) (rest := []) (lenOf pd__Ljava_lang_String__CII_Z rfl) rfl (by show 2 * 0 + _ ≤ _; exact Nat.le_of_eq rfl) (hb hby at_283) rfl eq15 (by decide) (by decide) (c' := 7) (s' := 310) rfl rfl
  obtain ⟨rfl, Nq16, eq16⟩ := hQ16
  have N16 := Fr.app N15 Nq16
  refine own_stW (T' := T16) (g' := (mkF m 286 #[iv shape, .val (.long pp), .second, iv pat, rv va, iv b_1, iv b_2, iv b_3, iv b_4, iv (3 : Int32), rv b10] [(.int (1 : Int32))])) st16 ?_
  clear st16
  refine own_stW (T' := T16) (g' := (mkF m 289 #[iv shape, .val (.long pp), .second, iv pat, rv va, iv b_1, iv b_2, iv b_3, iv b_4, iv (3 : Int32), rv b10] [])) (fun _ k_ => XS.ifNo X16.here hx rfl (hb hby at_286) rfl ((if0 _ _).trans (feq (by decide : ¬ ((1 : Int32) = (0 : Int32)))).1) k_) ?_
  refine own_stW (T' := T16) (g' := (mkF m 291 #[iv shape, .val (.long pp), .second, iv pat, rv va, iv b_1, iv b_2, iv b_3, iv b_4, iv (3 : Int32), rv b10] [(.ref b10)])) (fun _ k_ => XS.aload X16.here hx rfl (hb hby at_289) rfl rfl  k_) ?_
  refine own_stW (T' := T16) (g' := (mkF m 293 #[iv shape, .val (.long pp), .second, iv pat, rv va, iv b_1, iv b_2, iv b_3, iv b_4, iv (3 : Int32), rv b10] [(.ref va), (.ref b10)])) (fun _ k_ => XS.aload X16.here hx rfl (hb hby at_291) rfl rfl  k_) ?_
  refine own_stW (T' := T16) (g' := (mkF m 295 #[iv shape, .val (.long pp), .second, iv pat, rv va, iv b_1, iv b_2, iv b_3, iv b_4, iv (3 : Int32), rv b10] [(.int (3 : Int32)), (.ref va), (.ref b10)])) (fun _ k_ => XS.iload X16.here hx rfl (hb hby at_293) rfl  k_) ?_
  refine own_stW (T' := T16) (g' := (mkF m 296 #[iv shape, .val (.long pp), .second, iv pat, rv va, iv b_1, iv b_2, iv b_3, iv b_4, iv (3 : Int32), rv b10] [(.int (2 : Int32)), (.int (3 : Int32)), (.ref va), (.ref b10)])) (fun _ k_ => XS.iconst X16.here hx rfl (hb hby at_295) k_) ?_
  obtain ⟨_, T17, L17, X17, hQ17, st17⟩ := own_callS X16 hx (y := own_m25) hown (mvT hZ (hw _ (List.mem_of_getElem? (i := 112) rfl))) (mvT hZ (hw _ (List.mem_of_getElem? (i := 113) rfl))) (mvT hZ (hw _ (List.mem_of_getElem? (i := 3) rfl))) (mvT hZ (hw _ (List.mem_of_getElem? (i := 114) rfl))) (by decide) (backOf (W := 0) (rm_at0 l Z a0 hw [] b10 va (3 : Int32) (2 : Int32) T10.heap n0 f13 (by decide)) hZ (hw _ (List.mem_of_getElem? (i := 114) rfl)) (hw _ (List.mem_of_getElem? (i := 3) rfl)) (by decide) (by decide)) (g := (mkF m 296 #[iv shape, .val (.long pp), .second, iv pat, rv va, iv b_1, iv b_2, iv b_3, iv b_4, iv (3 : Int32), rv b10] [(.int (2 : Int32)), (.int (3 : Int32)), (.ref va), (.ref b10)])) rfl (by rw [hml]; rfl) (argsL := [(.ref b10), (.ref va), (.int (3 : Int32)), (.int (2 : Int32))]) (rest := []) (lenOf pd__Ljava_lang_String__CII_Z rfl) rfl (by show 2 * 0 + _ ≤ _; exact Nat.le_of_eq rfl) (hb hby at_296) rfl eq16 (by decide) (by decide) (c' := 7) (s' := 310) rfl rfl
  obtain ⟨rfl, Nq17, eq17⟩ := hQ17
  have N17 := Fr.app N16 Nq17
  refine own_stW (T' := T17) (g' := (mkF m 299 #[iv shape, .val (.long pp), .second, iv pat, rv va, iv b_1, iv b_2, iv b_3, iv b_4, iv (3 : Int32), rv b10] [(.int (1 : Int32))])) st17 ?_
  clear st17
  refine own_stW (T' := T17) (g' := (mkF m 302 #[iv shape, .val (.long pp), .second, iv pat, rv va, iv b_1, iv b_2, iv b_3, iv b_4, iv (3 : Int32), rv b10] [])) (fun _ k_ => XS.ifNo X17.here hx rfl (hb hby at_299) rfl ((if0 _ _).trans (feq (by decide : ¬ ((1 : Int32) = (0 : Int32)))).1) k_) ?_
  refine own_stW (T' := T17) (g' := (mkF m 304 #[iv shape, .val (.long pp), .second, iv pat, rv va, iv b_1, iv b_2, iv b_3, iv b_4, iv (3 : Int32), rv b10] [(.ref b10)])) (fun _ k_ => XS.aload X17.here hx rfl (hb hby at_302) rfl rfl  k_) ?_
  refine own_stW (T' := T17) (g' := (mkF m 306 #[iv shape, .val (.long pp), .second, iv pat, rv va, iv b_1, iv b_2, iv b_3, iv b_4, iv (3 : Int32), rv b10] [(.ref va), (.ref b10)])) (fun _ k_ => XS.aload X17.here hx rfl (hb hby at_304) rfl rfl  k_) ?_
  refine own_stW (T' := T17) (g' := (mkF m 308 #[iv shape, .val (.long pp), .second, iv pat, rv va, iv b_1, iv b_2, iv b_3, iv b_4, iv (3 : Int32), rv b10] [(.int (3 : Int32)), (.ref va), (.ref b10)])) (fun _ k_ => XS.iload X17.here hx rfl (hb hby at_306) rfl  k_) ?_
  refine own_stW (T' := T17) (g' := (mkF m 309 #[iv shape, .val (.long pp), .second, iv pat, rv va, iv b_1, iv b_2, iv b_3, iv b_4, iv (3 : Int32), rv b10] [(.int (3 : Int32)), (.int (3 : Int32)), (.ref va), (.ref b10)])) (fun _ k_ => XS.iconst X17.here hx rfl (hb hby at_308) k_) ?_
  obtain ⟨_, T18, L18, X18, hQ18, st18⟩ := own_callS X17 hx (y := own_m25) hown (mvT hZ (hw _ (List.mem_of_getElem? (i := 112) rfl))) (mvT hZ (hw _ (List.mem_of_getElem? (i := 113) rfl))) (mvT hZ (hw _ (List.mem_of_getElem? (i := 3) rfl))) (mvT hZ (hw _ (List.mem_of_getElem? (i := 114) rfl))) (by decide) (backOf (W := 0) (rm_at0 l Z a0 hw [] b10 va (3 : Int32) (3 : Int32) T10.heap n0 f13 (by decide)) hZ (hw _ (List.mem_of_getElem? (i := 114) rfl)) (hw _ (List.mem_of_getElem? (i := 3) rfl)) (by decide) (by decide)) (g := (mkF m 309 #[iv shape, .val (.long pp), .second, iv pat, rv va, iv b_1, iv b_2, iv b_3, iv b_4, iv (3 : Int32), rv b10] [(.int (3 : Int32)), (.int (3 : Int32)), (.ref va), (.ref b10)])) rfl (by rw [hml]; rfl) (argsL := [(.ref b10), (.ref va), (.int (3 : Int32)), (.int (3 : Int32))]) (rest := []) (lenOf pd__Ljava_lang_String__CII_Z rfl) rfl (by show 2 * 0 + _ ≤ _; exact Nat.le_of_eq rfl) (hb hby at_309) rfl eq17 (by decide) (by decide) (c' := 7) (s' := 310) rfl rfl
  obtain ⟨rfl, Nq18, eq18⟩ := hQ18
  have N18 := Fr.app N17 Nq18
  refine own_stW (T' := T18) (g' := (mkF m 312 #[iv shape, .val (.long pp), .second, iv pat, rv va, iv b_1, iv b_2, iv b_3, iv b_4, iv (3 : Int32), rv b10] [(.int (1 : Int32))])) st18 ?_
  clear st18
  refine own_stW (T' := T18) (g' := (mkF m 315 #[iv shape, .val (.long pp), .second, iv pat, rv va, iv b_1, iv b_2, iv b_3, iv b_4, iv (3 : Int32), rv b10] [])) (fun _ k_ => XS.ifNo X18.here hx rfl (hb hby at_312) rfl ((if0 _ _).trans (feq (by decide : ¬ ((1 : Int32) = (0 : Int32)))).1) k_) ?_
  refine own_stW (T' := T18) (g' := (mkF m 317 #[iv shape, .val (.long pp), .second, iv pat, rv va, iv b_1, iv b_2, iv b_3, iv b_4, iv (3 : Int32), rv b10] [(.ref b10)])) (fun _ k_ => XS.aload X18.here hx rfl (hb hby at_315) rfl rfl  k_) ?_
  refine own_stW (T' := T18) (g' := (mkF m 319 #[iv shape, .val (.long pp), .second, iv pat, rv va, iv b_1, iv b_2, iv b_3, iv b_4, iv (3 : Int32), rv b10] [(.ref va), (.ref b10)])) (fun _ k_ => XS.aload X18.here hx rfl (hb hby at_317) rfl rfl  k_) ?_
  refine own_stW (T' := T18) (g' := (mkF m 321 #[iv shape, .val (.long pp), .second, iv pat, rv va, iv b_1, iv b_2, iv b_3, iv b_4, iv (3 : Int32), rv b10] [(.int (3 : Int32)), (.ref va), (.ref b10)])) (fun _ k_ => XS.iload X18.here hx rfl (hb hby at_319) rfl  k_) ?_
  refine own_stW (T' := T18) (g' := (mkF m 322 #[iv shape, .val (.long pp), .second, iv pat, rv va, iv b_1, iv b_2, iv b_3, iv b_4, iv (3 : Int32), rv b10] [(.int (4 : Int32)), (.int (3 : Int32)), (.ref va), (.ref b10)])) (fun _ k_ => XS.iconst X18.here hx rfl (hb hby at_321) k_) ?_
  have ne19 : va ≠ b1 := Nat.ne_of_lt (Nat.lt_of_lt_of_le VA.lt (Nat.le_of_eq g1.symm))
  have f20 : Arv Z T6.heap va kc .char (6 : Int32) [(.int c0), (.int c1), (.int c2), (.int (58 : Int32)), (.int c4), (.int c5)] (.int (0 : Int32)) := f4.keep K6 (ninS ne19 nin0)
  have f21 : Arv Z T10.heap va kc .char (6 : Int32) [(.int c0), (.int c1), (.int c2), (.int (58 : Int32)), (.int c4), (.int c5)] (.int (0 : Int32)) := f20.keep K10 nin0
  obtain ⟨_, T22, L22, X22, hQ22, st22⟩ := own_callS X18 hx (y := own_m25) hown (mvT hZ (hw _ (List.mem_of_getElem? (i := 112) rfl))) (mvT hZ (hw _ (List.mem_of_getElem? (i := 113) rfl))) (mvT hZ (hw _ (List.mem_of_getElem? (i := 3) rfl))) (mvT hZ (hw _ (List.mem_of_getElem? (i := 114) rfl))) (by decide) (backOf (W := 0) (rm_at_4 l Z a0 hw [] b10 va (3 : Int32) u10 ku10 ([c4, c5] : List Int32) 0 kc c0 c1 c2 (58 : Int32) c4 c5 cz fm T10.heap n0 f13 fq10_0 fq10_2 fq10_1 fq10_3 f21 (own_cRS hr4 (own_cRS hr5 own_cR0)) (Nat.le_of_ble_eq_true rfl) (by decide) (Nat.le_of_ble_eq_true rfl) (by decide) rfl SC hcz SF hfm) hZ (hw _ (List.mem_of_getElem? (i := 114) rfl)) (hw _ (List.mem_of_getElem? (i := 3) rfl)) (by decide) (by decide)) (g := (mkF m 322 #[iv shape, .val (.long pp), .second, iv pat, rv va, iv b_1, iv b_2, iv b_3, iv b_4, iv (3 : Int32), rv b10] [(.int (4 : Int32)), (.int (3 : Int32)), (.ref va), (.ref b10)])) rfl (by rw [hml]; rfl) (argsL := [(.ref b10), (.ref va), (.int (3 : Int32)), (.int (4 : Int32))]) (rest := []) (lenOf pd__Ljava_lang_String__CII_Z rfl) rfl (by show 2 * 0 + _ ≤ _; exact Nat.le_of_eq rfl) (hb hby at_322) rfl eq18 (by decide) (by decide) (c' := 7) (s' := 310) rfl rfl
  obtain ⟨rfl, Nq22, eq22⟩ := hQ22
  have N22 := Fr.app N18 Nq22
  refine own_stW (T' := T22) (g' := (mkF m 325 #[iv shape, .val (.long pp), .second, iv pat, rv va, iv b_1, iv b_2, iv b_3, iv b_4, iv (3 : Int32), rv b10] [(.int (1 : Int32))])) st22 ?_
  clear st22
  refine own_stW (T' := T22) (g' := (mkF m 328 #[iv shape, .val (.long pp), .second, iv pat, rv va, iv b_1, iv b_2, iv b_3, iv b_4, iv (3 : Int32), rv b10] [])) (fun _ k_ => XS.ifNo X22.here hx rfl (hb hby at_325) rfl ((if0 _ _).trans (feq (by decide : ¬ ((1 : Int32) = (0 : Int32)))).1) k_) ?_
  refine own_stW (T' := T22) (g' := (mkF m 330 #[iv shape, .val (.long pp), .second, iv pat, rv va, iv b_1, iv b_2, iv b_3, iv b_4, iv (3 : Int32), rv b10] [(.ref b10)])) (fun _ k_ => XS.aload X22.here hx rfl (hb hby at_328) rfl rfl  k_) ?_
  refine own_stW (T' := T22) (g' := (mkF m 332 #[iv shape, .val (.long pp), .second, iv pat, rv va, iv b_1, iv b_2, iv b_3, iv b_4, iv (3 : Int32), rv b10] [(.ref va), (.ref b10)])) (fun _ k_ => XS.aload X22.here hx rfl (hb hby at_330) rfl rfl  k_) ?_
  refine own_stW (T' := T22) (g' := (mkF m 334 #[iv shape, .val (.long pp), .second, iv pat, rv va, iv b_1, iv b_2, iv b_3, iv b_4, iv (3 : Int32), rv b10] [(.int (3 : Int32)), (.ref va), (.ref b10)])) (fun _ k_ => XS.iload X22.here hx rfl (hb hby at_332) rfl  k_) ?_
  refine own_stW (T' := T22) (g' := (mkF m 335 #[iv shape, .val (.long pp), .second, iv pat, rv va, iv b_1, iv b_2, iv b_3, iv b_4, iv (3 : Int32), rv b10] [(.int (5 : Int32)), (.int (3 : Int32)), (.ref va), (.ref b10)])) (fun _ k_ => XS.iconst X22.here hx rfl (hb hby at_334) k_) ?_
  obtain ⟨_, T23, L23, X23, hQ23, st23⟩ := own_callS X22 hx (y := own_m25) hown (mvT hZ (hw _ (List.mem_of_getElem? (i := 112) rfl))) (mvT hZ (hw _ (List.mem_of_getElem? (i := 113) rfl))) (mvT hZ (hw _ (List.mem_of_getElem? (i := 3) rfl))) (mvT hZ (hw _ (List.mem_of_getElem? (i := 114) rfl))) (by decide) (backOf (W := 0) (rm_at_5 l Z a0 hw [] b10 va (3 : Int32) u10 ku10 ([c4, c5] : List Int32) 1 kc c0 c1 c2 (58 : Int32) c4 c5 cz fm T10.heap n0 f13 fq10_0 fq10_2 fq10_1 fq10_3 f21 (own_cRS hr4 (own_cRS hr5 own_cR0)) (Nat.le_of_ble_eq_true rfl) (by decide) (Nat.le_of_ble_eq_true rfl) (by decide) rfl SC hcz SF hfm) hZ (hw _ (List.mem_of_getElem? (i := 114) rfl)) (hw _ (List.mem_of_getElem? (i := 3) rfl)) (by decide) (by decide)) (g := (mkF m 335 #[iv shape, .val (.long pp), .second, iv pat, rv va, iv b_1, iv b_2, iv b_3, iv b_4, iv (3 : Int32), rv b10] [(.int (5 : Int32)), (.int (3 : Int32)), (.ref va), (.ref b10)])) rfl (by rw [hml]; rfl) (argsL := [(.ref b10), (.ref va), (.int (3 : Int32)), (.int (5 : Int32))]) (rest := []) (lenOf pd__Ljava_lang_String__CII_Z rfl) rfl (by show 2 * 0 + _ ≤ _; exact Nat.le_of_eq rfl) (hb hby at_335) rfl eq22 (by decide) (by decide) (c' := 7) (s' := 310) rfl rfl
  obtain ⟨rfl, Nq23, eq23⟩ := hQ23
  have N23 := Fr.app N22 Nq23
  refine own_stW (T' := T23) (g' := (mkF m 338 #[iv shape, .val (.long pp), .second, iv pat, rv va, iv b_1, iv b_2, iv b_3, iv b_4, iv (3 : Int32), rv b10] [(.int (1 : Int32))])) st23 ?_
  clear st23
  refine own_stW (T' := T23) (g' := (mkF m 341 #[iv shape, .val (.long pp), .second, iv pat, rv va, iv b_1, iv b_2, iv b_3, iv b_4, iv (3 : Int32), rv b10] [])) (fun _ k_ => XS.ifNo X23.here hx rfl (hb hby at_338) rfl ((if0 _ _).trans (feq (by decide : ¬ ((1 : Int32) = (0 : Int32)))).1) k_) ?_
  refine own_stW (T' := T23) (g' := (mkF m 342 #[iv shape, .val (.long pp), .second, iv pat, rv va, iv b_1, iv b_2, iv b_3, iv b_4, iv (3 : Int32), rv b10] [(.int (1 : Int32))])) (fun _ k_ => XS.iconst X23.here hx rfl (hb hby at_341) k_) ?_
  refine own_stW (T' := T23) (g' := (mkF m 346 #[iv shape, .val (.long pp), .second, iv pat, rv va, iv b_1, iv b_2, iv b_3, iv b_4, iv (3 : Int32), rv b10] [(.int (1 : Int32))])) (fun _ k_ => XS.goto X23.here hx rfl (pc0 := 342) (pc' := 346) rfl (hb hby at_342) (by decide) (by decide) k_) ?_
  exact own_retNW X23 hZ hS0 (by rw [eq23]; exact (Nat.le_trans (Nat.le_trans (Nat.le_trans hk0 E1.1) K6.1) K10.1)) hEL (by rw [eq23]; exact CR11) hx (t := .boolean) hret (by simp) hlk (hb hby at_346) (by decide) (by decide) ⟨rfl, N23⟩
set_option maxRecDepth 65536 in
set_option maxHeartbeats 40000000 in
theorem seg_t4 {p : Program} {l : Launch} {e : Env} {s : State} {m : MethodId} {args : Array Value} {below : List Frame} {meth : Method} {c : Code} {T0 : State} {locs : List Loc} {Z : State} {a0 : Array Value} {vm0 : Vm} {k0 : Nat} (h0 : Heap) (hB : Heap) (n0 : Nat) (shape : Int32) (pp : Int64) (pat : Int32) (va : Addr) (kc : ClassId) (b_1 : Int32) (b_2 : Int32) (b_3 : Int32) (b_4 : Int32) (c0 : Int32) (c1 : Int32) (c2 : Int32) (c3 : Int32) (c5 : Int32) (cz : Int32) (fm : Value)
    (X0 : Stand p l e room_1 (s.setVm vm0) m args below meth c T0 locs 3 294) (hx : p.tables.exec = Jvm.exec) (hZs : Z.Warmed39 s.vm) (hZ : Z.Warmed39 (s.setVm vm0).vm) (hS0 : s.Since vm0 k0) (hk0 : k0 ≤ hB.size) (CR0 : CHr Z consts_1 s.vm h0 vm0 hB) (hw : ∀ d ∈ tables_1, d.before a0 Z = true) (hby : c.code = code) (hml : c.maxLocals = 11) (howns : s.vm.findClass "com/example/sheafgate/sheafgate/store/SetSpecsLastPartPinLaw" = some m.cls) (hown : (s.setVm vm0).vm.findClass "com/example/sheafgate/sheafgate/store/SetSpecsLastPartPinLaw" = some m.cls) (hnm : meth.name = "law") (hret : meth.sig.returnType = some .boolean) (hlk : meth.locks = false) (e0 : T0.heap = hB) (N0 : Fr n0 locs) (O0 : Old Z n0 hB) (hr0 : ¬ c0 < 0 ∧ ¬ (255 : Int32) < c0) (hr1 : ¬ c1 < 0 ∧ ¬ (255 : Int32) < c1) (hr2 : ¬ c2 < 0 ∧ ¬ (255 : Int32) < c2) (hr3 : ¬ c3 < 0 ∧ ¬ (255 : Int32) < c3) (hr5 : ¬ c5 < 0 ∧ ¬ (255 : Int32) < c5) (hn5 : ¬ (c5.toInt8.toInt32) = ((58 : Int32).toInt8.toInt32)) (VA : Arv Z hB va kc .char (6 : Int32) [(.int c0), (.int c1), (.int c2), (.int c3), (.int (58 : Int32)), (.int c5)] (.int (0 : Int32))) (SC : Sta Z Z.heap "java/lang/String" "COMPACT_STRINGS" "Z" (.int cz)) (hcz : ¬ cz = (0 : Int32)) (SF : Sta Z Z.heap "jdk/internal/util/Preconditions" "SIOOBE_FORMATTER" "Ljava/util/function/BiFunction;" fm) (hfm : fm.isRef = true) :
    own_W p e below s room_1.cells room_1.slots Z consts_1 h0 (own_L n0) T0 (mkF m 235 #[iv shape, .val (.long pp), .second, iv pat, rv va, iv b_1, iv b_2, iv b_3, iv b_4, iv (4 : Int32), .unset] []) := by
  have hEL := own_EW hw
  obtain ⟨T1, h1, X1, e1, E1, A1, D1, -, st1⟩ := newO X0 hx hZ hown (hw _ (List.mem_of_getElem? (i := 40) rfl)) (hw _ (List.mem_of_getElem? (i := 7) rfl)) (hw _ (List.mem_of_getElem? (i := 6) rfl)) e0 (g := (mkF m 235 #[iv shape, .val (.long pp), .second, iv pat, rv va, iv b_1, iv b_2, iv b_3, iv b_4, iv (4 : Int32), .unset] [])) rfl (hb hby at_235) (by decide) (by decide)
  obtain ⟨b1, g1⟩ : ∃ z, z = hB.size := ⟨_, rfl⟩
  rw [← g1] at A1 D1 st1
  have fr1 : n0 ≤ b1 := Nat.le_trans (own_z O0) (Nat.le_of_eq g1.symm)
  have CR2 : CHr Z consts_1 s.vm h0 vm0 h1 := CR0.trans (CHr.ext E1 CR0.1)
  have sf3 : Safe Z consts_1 vm0 h1 b1 := Safe.ext E1 CR0.1 (Safe.new (Nat.le_of_eq g1.symm))
  have F1_value : Fld Z h1 b1 "java/lang/String" "value" "[B" .null := D1 (Or.inr (hw _ (List.mem_of_getElem? (i := 9) rfl))) (ty := (.array .byte)) (by decide)
  have F1_coder : Fld Z h1 b1 "java/lang/String" "coder" "B" (.int (0 : Int32)) := D1 (Or.inr (hw _ (List.mem_of_getElem? (i := 10) rfl))) (ty := .byte) (by decide)
  refine own_stW (T' := T1) (g' := (mkF m 238 #[iv shape, .val (.long pp), .second, iv pat, rv va, iv b_1, iv b_2, iv b_3, iv b_4, iv (4 : Int32), .unset] [(.ref b1)])) st1 ?_
  clear st1
  refine own_stW (T' := T1) (g' := (mkF m 239 #[iv shape, .val (.long pp), .second, iv pat, rv va, iv b_1, iv b_2, iv b_3, iv b_4, iv (4 : Int32), .unset] [(.ref b1), (.ref b1)])) (fun _ k_ => XS.dup X1.here hx rfl (hb hby at_238) rfl rfl k_) ?_
  refine own_stW (T' := T1) (g' := (mkF m 241 #[iv shape, .val (.long pp), .second, iv pat, rv va, iv b_1, iv b_2, iv b_3, iv b_4, iv (4 : Int32), .unset] [(.ref va), (.ref b1), (.ref b1)])) (fun _ k_ => XS.aload X1.here hx rfl (hb hby at_239) rfl rfl  k_) ?_
  have f4 : Arv Z h1 va kc .char (6 : Int32) [(.int c0), (.int c1), (.int c2), (.int c3), (.int (58 : Int32)), (.int c5)] (.int (0 : Int32)) := VA.ext E1
  have f5 : Old Z n0 h1 := O0.ext E1
  obtain ⟨_, T6, L6, X6, hQ6, st6⟩ := own_callI X1 hx (y := own_m4) rfl hown (mvT hZ (hw _ (List.mem_of_getElem? (i := 41) rfl))) (mvT hZ (hw _ (List.mem_of_getElem? (i := 42) rfl))) (mvT hZ (hw _ (List.mem_of_getElem? (i := 43) rfl))) (by decide) (backOf (W := 1) (rm_ini1_6 l Z a0 hw [] b1 va kc cz c0 c1 c2 c3 (58 : Int32) c5 h1 n0 f5 A1 F1_value F1_coder fr1 f4 SC hcz hr0.2 hr1.2 hr2.2 hr3.2 (by decide) hr5.2) hZ (hw _ (List.mem_of_getElem? (i := 43) rfl)) (hw _ (List.mem_of_getElem? (i := 6) rfl)) (by decide) (by decide)) (g := (mkF m 241 #[iv shape, .val (.long pp), .second, iv pat, rv va, iv b_1, iv b_2, iv b_3, iv b_4, iv (4 : Int32), .unset] [(.ref va), (.ref b1), (.ref b1)])) rfl (by rw [hml]; rfl) (a := b1) (argsL := [(.ref va)]) (rest := [(.ref b1)]) (lenOf pd___C_V rfl) rfl (by show 2 * 0 + _ ≤ _; exact Nat.le_of_eq rfl) (hb hby at_241) rfl e1 (by decide) (by decide) (c' := 5) (s' := 304) rfl rfl
  obtain ⟨t6, kb6, rfl, Nq6, K6, fq6_0, fq6_1, fq6_2, fq6_3, xq6_fresh_t⟩ := hQ6
  have N6 := Fr.app N0 Nq6
  have CR7 : CHr Z consts_1 s.vm h0 vm0 T6.heap := CR2.trans (CHr.keep K6 (sfS sf3 sf0) CR2.1)
  have sf8 : Safe Z consts_1 vm0 T6.heap b1 := Safe.keep K6 (sfS sf3 sf0) CR2.1 sf3
  refine own_stW (T' := T6) (g' := (mkF m 244 #[iv shape, .val (.long pp), .second, iv pat, rv va, iv b_1, iv b_2, iv b_3, iv b_4, iv (4 : Int32), .unset] [(.ref b1)])) st6 ?_
  clear st6
  have f9 : Old Z n0 T6.heap := f5.keep K6 (allS fr1 all0)
  obtain ⟨_, T10, L10, X10, hQ10, st10⟩ := own_callS X6 hx (y := own_m21) hown (mvT hZ (hw _ (List.mem_of_getElem? (i := 61) rfl))) (mvT hZ (hw _ (List.mem_of_getElem? (i := 62) rfl))) (mvT hZ (hw _ (List.mem_of_getElem? (i := 63) rfl))) (mvT hZ (hw _ (List.mem_of_getElem? (i := 64) rfl))) (by decide) (backOf (W := 0) (rm_lp_4 l Z a0 hw [] b1 t6 kb6 c0 c1 c2 c3 c5 cz fm T6.heap n0 f9 fq6_0 fq6_2 fq6_1 fq6_3 hn5 SC hcz SF hfm) hZ (hw _ (List.mem_of_getElem? (i := 64) rfl)) (hw _ (List.mem_of_getElem? (i := 63) rfl)) (by decide) (by decide)) (g := (mkF m 244 #[iv shape, .val (.long pp), .second, iv pat, rv va, iv b_1, iv b_2, iv b_3, iv b_4, iv (4 : Int32), .unset] [(.ref b1)])) rfl (by rw [hml]; rfl) (argsL := [(.ref b1)]) (rest := []) (lenOf pd__Ljava_lang_String__Ljava_lang_String_ rfl) rfl (by show 2 * 0 + _ ≤ _; exact Nat.le_of_eq rfl) (hb hby at_244) rfl rfl (by decide) (by decide) (c' := 7) (s' := 309) rfl rfl
  obtain ⟨b10, u10, ku10, rfl, Nq10, K10, fq10_0, fq10_1, fq10_2, fq10_3, xq10_fresh_b⟩ := hQ10
  have N10 := Fr.app N6 Nq10
  have CR11 : CHr Z consts_1 s.vm h0 vm0 T10.heap := CR7.trans (CHr.keep K10 sf0 CR7.1)
  have sf12 : Safe Z consts_1 vm0 T10.heap b1 := Safe.keep K10 sf0 CR7.1 sf8
  refine own_stW (T' := T10) (g' := (mkF m 247 #[iv shape, .val (.long pp), .second, iv pat, rv va, iv b_1, iv b_2, iv b_3, iv b_4, iv (4 : Int32), .unset] [(.ref b10)])) st10 ?_
  clear st10
  refine own_stW (T' := T10) (g' := (mkF m 249 #[iv shape, .val (.long pp), .second, iv pat, rv va, iv b_1, iv b_2, iv b_3, iv b_4, iv (4 : Int32), rv b10] [])) (fun _ k_ => XS.astore X10.here hx rfl (hb hby at_247) rfl rfl (l' := #[iv shape, .val (.long pp), .second, iv pat, rv va, iv b_1, iv b_2, iv b_3, iv b_4, iv (4 : Int32), rv b10]) rfl k_) ?_
  refine own_stW (T' := T10) (g' := (mkF m 251 #[iv shape, .val (.long pp), .second, iv pat, rv va, iv b_1, iv b_2, iv b_3, iv b_4, iv (4 : Int32), rv b10] [(.ref b10)])) (fun _ k_ => XS.aload X10.here hx rfl (hb hby at_249) rfl rfl  k_) ?_
  have f13 : Old Z n0 T10.heap := f9.keep K10 all0
  obtain ⟨cq14, kq14, q14a, q14b, q14c⟩ := isOf hZ rfl fq10_0
  obtain ⟨_, T14, L14, X14, hQ14, st14⟩ := own_callV X10 hx (y := own_m6) (z := own_m6) hown (mvT hZ (hw _ (List.mem_of_getElem? (i := 111) rfl))) (mvT hZ (hw _ (List.mem_of_getElem? (i := 71) rfl))) (notFace_of_selects (args := #[]) (mvT hZ (hw _ (List.mem_of_getElem? (i := 73) rfl)))) (mvT hZ (hw _ (List.mem_of_getElem? (i := 73) rfl))) (mvT hZ (hw _ (List.mem_of_getElem? (i := 72) rfl))) (by decide) (backOf (W := 0) (rm_len l Z a0 hw [] b10 u10 ku10 (1 : Int32) [(.int (c5.toInt8.toInt32))] cz T10.heap n0 f13 fq10_0 fq10_2 fq10_1 fq10_3 SC hcz) hZ (hw _ (List.mem_of_getElem? (i := 74) rfl)) (hw _ (List.mem_of_getElem? (i := 6) rfl)) (by decide) (by decide)) q14a q14c (g := (mkF m 251 #[iv shape, .val (.long pp), .second, iv pat, rv va, iv b_1, iv b_2, iv b_3, iv b_4, iv (4 : Int32), rv b10] [(.ref b10)])) rfl (by rw [hml]; rfl) (argsL := []) (rest := []) (lenOf pd___I rfl) rfl (by show 2 * 0 + _ ≤ _; exact Nat.le_of_eq rfl) (hb hby at_251) rfl rfl (by decide) (by decide) (c' := 7) (s' := 309) rfl rfl
  clear q14a q14b q14c kq14 cq14
  obtain ⟨rfl, Nq14, eq14⟩ := hQ14
  have N14 := Fr.app N10 Nq14
  refine own_stW (T' := T14) (g' := (mkF m 254 #[iv shape, .val (.long pp), .second, iv pat, rv va, iv b_1, iv b_2, iv b_3, iv b_4, iv (4 : Int32), rv b10] [(.int (1 : Int32))])) st14 ?_
  clear st14
  refine own_stW (T' := T14) (g' := (mkF m 255 #[iv shape, .val (.long pp), .second, iv pat, rv va, iv b_1, iv b_2, iv b_3, iv b_4, iv (4 : Int32), rv b10] [(.int (5 : Int32)), (.int (1 : Int32))])) (fun _ k_ => XS.iconst X14.here hx rfl (hb hby at_254) k_) ?_
  refine own_stW (T' := T14) (g' := (mkF m 257 #[iv shape, .val (.long pp), .second, iv pat, rv va, iv b_1, iv b_2, iv b_3, iv b_4, iv (4 : Int32), rv b10] [(.int (4 : Int32)), (.int (5 : Int32)), (.int (1 : Int32))])) (fun _ k_ => XS.iload X14.here hx rfl (hb hby at_255) rfl  k_) ?_
  refine own_stW (T' := T14) (g' := (mkF m 258 #[iv shape, .val (.long pp), .second, iv pat, rv va, iv b_1, iv b_2, iv b_3, iv b_4, iv (4 : Int32), rv b10] [(.int (1 : Int32)), (.int (1 : Int32))])) (fun _ k_ => XS.isub X14.here hx rfl (hb hby at_257) rfl k_) ?_
  refine own_stW (T' := T14) (g' := (mkF m 263 #[iv shape, .val (.long pp), .second, iv pat, rv va, iv b_1, iv b_2, iv b_3, iv b_4, iv (4 : Int32), rv b10] [])) (fun _ k_ => XS.icmpYes X14.here hx rfl (pc0 := 258) (pc' := 263) rfl (hb hby at_258) rfl (teq (rfl : (1 : Int32) = (1 : Int32))).1 (by decide) (by decide) k_) ?_
  refine own_stW (T' := T14) (g' := (mkF m 265 #[iv shape, .val (.long pp), .second, iv pat, rv va, iv b_1, iv b_2, iv b_3, iv b_4, iv (4 : Int32), rv b10] [(.ref b10)])) (fun _ k_ => XS.aload X14.here hx rfl (hb hby at_263) rfl rfl  k_) ?_
  refine own_stW (T' := T14) (g' := (mkF m 267 #[iv shape, .val (.long pp), .second, iv pat, rv va, iv b_1, iv b_2, iv b_3, iv b_4, iv (4 : Int32), rv b10] [(.ref va), (.ref b10)])) (fun _ k_ => XS.aload X14.here hx rfl (hb hby at_265) rfl rfl  k_) ?_
  refine own_stW (T' := T14) (g' := (mkF m 269 #[iv shape, .val (.long pp), .second, iv pat, rv va, iv b_1, iv b_2, iv b_3, iv b_4, iv (4 : Int32), rv b10] [(.int (4 : Int32)), (.ref va), (.ref b10)])) (fun _ k_ => XS.iload X14.here hx rfl (hb hby at_267) rfl  k_) ?_
  refine own_stW (T' := T14) (g' := (mkF m 270 #[iv shape, .val (.long pp), .second, iv pat, rv va, iv b_1, iv b_2, iv b_3, iv b_4, iv (4 : Int32), rv b10] [(.int (0 : Int32)), (.int (4 : Int32)), (.ref va), (.ref b10)])) (fun _ k_ => XS.iconst X14.here hx rfl (hb hby at_269) k_) ?_
  obtain ⟨_, T15, L15, X15, hQ15, st15⟩ := own_callS X14 hx (y := own_m25) hown (mvT hZ (hw _ (List.mem_of_getElem? (i := 112) rfl))) (mvT hZ (hw _ (List.mem_of_getElem? (i := 113) rfl))) (mvT hZ (hw _ (List.mem_of_getElem? (i := 3) rfl))) (mvT hZ (hw _ (List.mem_of_getElem? (i := 114) rfl))) (by decide) (backOf (W := 0) (rm_at0 l Z a0 hw [] b10 va (4 : Int32) (0 : Int32) T10.heap n0 f13 (by decide)) hZ (hw _ (List.mem_of_getElem? (i := 114) rfl)) (hw _ (List.mem_of_getElem? (i := 3) rfl)) (by decide) (by decide)) (g := (mkF m 270 #[iv shape, .val (.long pp), .second, iv pat, rv va, iv b_1, iv b_2, iv b_3, iv b_4, iv (4 : Int32), rv b10] [(.int (0 : Int32)), (.int (4 : Int32)), (.ref va), (.ref b10)])) rfl (by rw [hml]; rfl) (argsL := [(.ref b10), (.ref va), (.int (4 : Int32)), (.int (0 : Int32))]) (rest := []) (lenOf pd__Ljava_lang_String__CII_Z rfl) rfl (by show 2 * 0 + _ ≤ _; exact Nat.le_of_eq rfl) (hb hby at_270) rfl eq14 (by decide) (by decide) (c' := 7) (s' := 309) rfl rfl
  obtain ⟨rfl, Nq15, eq15⟩ := hQ15
  have N15 := Fr.app N14 Nq15
  refine own_stW (T' := T15) (g' := (mkF m 273 #[iv shape, .val (.long pp), .second, iv pat, rv va, iv b_1, iv b_2, iv b_3, iv b_4, iv (4 : Int32), rv b10] [(.int (1 : Int32))])) st15 ?_
  clear st15
  refine own_stW (T' := T15) (g' := (mkF m 276 #[iv shape, .val (.long pp), .second, iv pat, rv va, iv b_1, iv b_2, iv b_3, iv b_4, iv (4 : Int32), rv b10] [])) (fun _ k_ => XS.ifNo X15.here hx rfl (hb hby at_273) rfl ((if0 _ _).trans (feq (by decide : ¬ ((1 : Int32) = (0 : Int32)))).1) k_) ?_
  refine own_stW (T' := T15) (g' := (mkF m 278 #[iv shape, .val (.long pp), .second, iv pat, rv va, iv b_1, iv b_2, iv b_3, iv b_4, iv (4 : Int32), rv b10] [(.ref b10)])) (fun _ k_ => XS.aload X15.here hx rfl (hb hby at_276) rfl rfl  k_) ?_
  refine own_stW (T' := T15) (g' := (mkF m 280 #[iv shape, .val (.long pp), .second, iv pat, rv va, iv b_1, iv b_2, iv b_3, iv b_4, iv (4 : Int32), rv b10] [(.ref va), (.ref b10)])) (fun _ k_ => XS.aload X15.here hx rfl (hb hby at_278) rfl rfl  k_) ?_
  refine own_stW (T' := T15) (g' := (mkF m 282 #[iv shape, .val (.long pp), .second, iv pat, rv va, iv b_1, iv b_2, iv b_3, iv b_4, iv (4 : Int32), rv b10] [(.int (4 : Int32)), (.ref va), (.ref b10)])) (fun _ k_ => XS.iload X15.here hx rfl (hb hby at_280) rfl  k_) ?_
  refine own_stW (T' := T15) (g' := (mkF m 283 #[iv shape, .val (.long pp), .second, iv pat, rv va, iv b_1, iv b_2, iv b_3, iv b_4, iv (4 : Int32), rv b10] [(.int (1 : Int32)), (.int (4 : Int32)), (.ref va), (.ref b10)])) (fun _ k_ => XS.iconst X15.here hx rfl (hb hby at_282) k_) ?_
  obtain ⟨_, T16, L16, X16, hQ16, st16⟩ := own_callS X15 hx (y := own_m25) hown (mvT hZ (hw _ (List.mem_of_getElem? (i := 112) rfl))) (mvT hZ (hw _ (List.mem_of_getElem? (i := 113) rfl))) (mvT hZ (hw _ (List.mem_of_getElem? (i := 3) rfl))) (mvT hZ (hw _ (List.mem_of_getElem? (i := 114) rfl))) (by decide) (backOf (W := 0) (rm_at0 l Z a0 hw [] b10 va (4 : Int32) (1 : Int32) T10.heap n0 f13 (by decide)) hZ (hw _ (List.mem_of_getElem? (i := 114) rfl)) (hw _ (List.mem_of_getElem? (i := 3) rfl)) (by decide) (by decide)) (g := (mkF m 283 #[iv shape, .val (.long pp), .second, iv pat, rv va, iv b_1, iv b_2, iv b_3, iv b_4, iv (4 : Int32), rv b10] [(.int (1 : Int32)), (.int (4 : Int32)), (.ref va), (.ref b10)])) rfl (by rw [hml]; rfl) (argsL := [(.ref b10), (.ref va), (.int (4 : Int32)), (.int (1 : Int32))]) (rest := []) (lenOf pd__Ljava_lang_String__CII_Z rfl) rfl (by show 2 * 0 + _ ≤ _; exact Nat.le_of_eq rfl) (hb hby at_283) rfl eq15 (by decide) (by decide) (c' := 7) (s' := 309) rfl rfl
  obtain ⟨rfl, Nq16, eq16⟩ := hQ16
  have N16 := Fr.app N15 Nq16
  refine own_stW (T' := T16) (g' := (mkF m 286 #[iv shape, .val (.long pp), .second, iv pat, rv va, iv b_1, iv b_2, iv b_3, iv b_4, iv (4 : Int32), rv b10] [(.int (1 : Int32))])) st16 ?_
  clear st16
  refine own_stW (T' := T16) (g' := (mkF m 289 #[iv shape, .val (.long pp), .second, iv pat, rv va, iv b_1, iv b_2, iv b_3, iv b_4, iv (4 : Int32), rv b10] [])) (fun _ k_ => XS.ifNo X16.here hx rfl (hb hby at_286) rfl ((if0 _ _).trans (feq (by decide : ¬ ((1 : Int32) = (0 : Int32)))).1) k_) ?_
  refine own_stW (T' := T16) (g' := (mkF m 291 #[iv shape, .val (.long pp), .second, iv pat, rv va, iv b_1, iv b_2, iv b_3, iv b_4, iv (4 : Int32), rv b10] [(.ref b10)])) (fun _ k_ => XS.aload X16.here hx rfl (hb hby at_289) rfl rfl  k_) ?_
  refine own_stW (T' := T16) (g' := (mkF m 293 #[iv shape, .val (.long pp), .second, iv pat, rv va, iv b_1, iv b_2, iv b_3, iv b_4, iv (4 : Int32), rv b10] [(.ref va), (.ref b10)])) (fun _ k_ => XS.aload X16.here hx rfl (hb hby at_291) rfl rfl  k_) ?_
  refine own_stW (T' := T16) (g' := (mkF m 295 #[iv shape, .val (.long pp), .second, iv pat, rv va, iv b_1, iv b_2, iv b_3, iv b_4, iv (4 : Int32), rv b10] [(.int (4 : Int32)), (.ref va), (.ref b10)])) (fun _ k_ => XS.iload X16.here hx rfl (hb hby at_293) rfl  k_) ?_
  refine own_stW (T' := T16) (g' := (mkF m 296 #[iv shape, .val (.long pp), .second, iv pat, rv va, iv b_1, iv b_2, iv b_3, iv b_4, iv (4 : Int32), rv b10] [(.int (2 : Int32)), (.int (4 : Int32)), (.ref va), (.ref b10)])) (fun _ k_ => XS.iconst X16.here hx rfl (hb hby at_295) k_) ?_
  obtain ⟨_, T17, L17, X17, hQ17, st17⟩ := own_callS X16 hx (y := own_m25) hown (mvT hZ (hw _ (List.mem_of_getElem? (i := 112) rfl))) (mvT hZ (hw _ (List.mem_of_getElem? (i := 113) rfl))) (mvT hZ (hw _ (List.mem_of_getElem? (i := 3) rfl))) (mvT hZ (hw _ (List.mem_of_getElem? (i := 114) rfl))) (by decide) (backOf (W := 0) (rm_at0 l Z a0 hw [] b10 va (4 : Int32) (2 : Int32) T10.heap n0 f13 (by decide)) hZ (hw _ (List.mem_of_getElem? (i := 114) rfl)) (hw _ (List.mem_of_getElem? (i := 3) rfl)) (by decide) (by decide)) (g := (mkF m 296 #[iv shape, .val (.long pp), .second, iv pat, rv va, iv b_1, iv b_2, iv b_3, iv b_4, iv (4 : Int32), rv b10] [(.int (2 : Int32)), (.int (4 : Int32)), (.ref va), (.ref b10)])) rfl (by rw [hml]; rfl) (argsL := [(.ref b10), (.ref va), (.int (4 : Int32)), (.int (2 : Int32))]) (rest := []) (lenOf pd__Ljava_lang_String__CII_Z rfl) rfl (by show 2 * 0 + _ ≤ _; exact Nat.le_of_eq rfl) (hb hby at_296) rfl eq16 (by decide) (by decide) (c' := 7) (s' := 309) rfl rfl
  obtain ⟨rfl, Nq17, eq17⟩ := hQ17
  have N17 := Fr.app N16 Nq17
  refine own_stW (T' := T17) (g' := (mkF m 299 #[iv shape, .val (.long pp), .second, iv pat, rv va, iv b_1, iv b_2, iv b_3, iv b_4, iv (4 : Int32), rv b10] [(.int (1 : Int32))])) st17 ?_
  clear st17
  refine own_stW (T' := T17) (g' := (mkF m 302 #[iv shape, .val (.long pp), .second, iv pat, rv va, iv b_1, iv b_2, iv b_3, iv b_4, iv (4 : Int32), rv b10] [])) (fun _ k_ => XS.ifNo X17.here hx rfl (hb hby at_299) rfl ((if0 _ _).trans (feq (by decide : ¬ ((1 : Int32) = (0 : Int32)))).1) k_) ?_
  refine own_stW (T' := T17) (g' := (mkF m 304 #[iv shape, .val (.long pp), .second, iv pat, rv va, iv b_1, iv b_2, iv b_3, iv b_4, iv (4 : Int32), rv b10] [(.ref b10)])) (fun _ k_ => XS.aload X17.here hx rfl (hb hby at_302) rfl rfl  k_) ?_
  refine own_stW (T' := T17) (g' := (mkF m 306 #[iv shape, .val (.long pp), .second, iv pat, rv va, iv b_1, iv b_2, iv b_3, iv b_4, iv (4 : Int32), rv b10] [(.ref va), (.ref b10)])) (fun _ k_ => XS.aload X17.here hx rfl (hb hby at_304) rfl rfl  k_) ?_
  refine own_stW (T' := T17) (g' := (mkF m 308 #[iv shape, .val (.long pp), .second, iv pat, rv va, iv b_1, iv b_2, iv b_3, iv b_4, iv (4 : Int32), rv b10] [(.int (4 : Int32)), (.ref va), (.ref b10)])) (fun _ k_ => XS.iload X17.here hx rfl (hb hby at_306) rfl  k_) ?_
  refine own_stW (T' := T17) (g' := (mkF m 309 #[iv shape, .val (.long pp), .second, iv pat, rv va, iv b_1, iv b_2, iv b_3, iv b_4, iv (4 : Int32), rv b10] [(.int (3 : Int32)), (.int (4 : Int32)), (.ref va), (.ref b10)])) (fun _ k_ => XS.iconst X17.here hx rfl (hb hby at_308) k_) ?_
  obtain ⟨_, T18, L18, X18, hQ18, st18⟩ := own_callS X17 hx (y := own_m25) hown (mvT hZ (hw _ (List.mem_of_getElem? (i := 112) rfl))) (mvT hZ (hw _ (List.mem_of_getElem? (i := 113) rfl))) (mvT hZ (hw _ (List.mem_of_getElem? (i := 3) rfl))) (mvT hZ (hw _ (List.mem_of_getElem? (i := 114) rfl))) (by decide) (backOf (W := 0) (rm_at0 l Z a0 hw [] b10 va (4 : Int32) (3 : Int32) T10.heap n0 f13 (by decide)) hZ (hw _ (List.mem_of_getElem? (i := 114) rfl)) (hw _ (List.mem_of_getElem? (i := 3) rfl)) (by decide) (by decide)) (g := (mkF m 309 #[iv shape, .val (.long pp), .second, iv pat, rv va, iv b_1, iv b_2, iv b_3, iv b_4, iv (4 : Int32), rv b10] [(.int (3 : Int32)), (.int (4 : Int32)), (.ref va), (.ref b10)])) rfl (by rw [hml]; rfl) (argsL := [(.ref b10), (.ref va), (.int (4 : Int32)), (.int (3 : Int32))]) (rest := []) (lenOf pd__Ljava_lang_String__CII_Z rfl) rfl (by show 2 * 0 + _ ≤ _; exact Nat.le_of_eq rfl) (hb hby at_309) rfl eq17 (by decide) (by decide) (c' := 7) (s' := 309) rfl rfl
  obtain ⟨rfl, Nq18, eq18⟩ := hQ18
  have N18 := Fr.app N17 Nq18
  refine own_stW (T' := T18) (g' := (mkF m 312 #[iv shape, .val (.long pp), .second, iv pat, rv va, iv b_1, iv b_2, iv b_3, iv b_4, iv (4 : Int32), rv b10] [(.int (1 : Int32))])) st18 ?_
  clear st18
  refine own_stW (T' := T18) (g' := (mkF m 315 #[iv shape, .val (.long pp), .second, iv pat, rv va, iv b_1, iv b_2, iv b_3, iv b_4, iv (4 : Int32), rv b10] [])) (fun _ k_ => XS.ifNo X18.here hx rfl (hb hby at_312) rfl ((if0 _ _).trans (feq (by decide : ¬ ((1 : Int32) = (0 : Int32)))).1) k_) ?_
  refine own_stW (T' := T18) (g' := (mkF m 317 #[iv shape, .val (.long pp), .second, iv pat, rv va, iv b_1, iv b_2, iv b_3, iv b_4, iv (4 : Int32), rv b10] [(.ref b10)])) (fun _ k_ => XS.aload X18.here hx rfl (hb hby at_315) rfl rfl  k_) ?_
  refine own_stW (T' := T18) (g' := (mkF m 319 #[iv shape, .val (.long pp), .second, iv pat, rv va, iv b_1, iv b_2, iv b_3, iv b_4, iv (4 : Int32), rv b10] [(.ref va), (.ref b10)])) (fun _ k_ => XS.aload X18.here hx rfl (hb hby at_317) rfl rfl  k_) ?_
  refine own_stW (T' := T18) (g' := (mkF m 321 #[iv shape, .val (.long pp), .second, iv pat, rv va, iv b_1, iv b_2, iv b_3, iv b_4, iv (4 : Int32), rv b10] [(.int (4 : Int32)), (.ref va), (.ref b10)])) (fun _ k_ => XS.iload X18.here hx rfl (hb hby at_319) rfl  k_) ?_
  refine own_stW (T' := T18) (g' := (mkF m 322 #[iv shape, .val (.long pp), .second, iv pat, rv va, iv b_1, iv b_2, iv b_3, iv b_4, iv (4 : Int32), rv b10] [(.int (4 : Int32)), (.int (4 : Int32)), (.ref va), (.ref b10)])) (fun _ k_ => XS.iconst X18.here hx rfl (hb hby at_321) k_) ?_
  obtain ⟨_, T19, L19, X19, hQ19, st19⟩ := own_callS X18 hx (y := own_m25) hown (mvT hZ (hw _ (List.mem_of_getElem? (i := 112) rfl))) (mvT hZ (hw _ (List.mem_of_getElem? (i := 113) rfl))) (mvT hZ (hw _ (List.mem_of_getElem? (i := 3) rfl))) (mvT hZ (hw _ (List.mem_of_getElem? (i := 114) rfl))) (by decide) (backOf (W := 0) (rm_at0 l Z a0 hw [] b10 va (4 : Int32) (4 : Int32) T10.heap n0 f13 (by decide)) hZ (hw _ (List.mem_of_getElem? (i := 114) rfl)) (hw _ (List.mem_of_getElem? (i := 3) rfl)) (by decide) (by decide)) (g := (mkF m 322 #[iv shape, .val (.long pp), .second, iv pat, rv va, iv b_1, iv b_2, iv b_3, iv b_4, iv (4 : Int32), rv b10] [(.int (4 : Int32)), (.int (4 : Int32)), (.ref va), (.ref b10)])) rfl (by rw [hml]; rfl) (argsL := [(.ref b10), (.ref va), (.int (4 : Int32)), (.int (4 : Int32))]) (rest := []) (lenOf pd__Ljava_lang_String__CII_Z rfl) rfl (by show 2 * 0 + _ ≤ _; exact Nat.le_of_eq rfl) (hb hby at_322) rfl eq18 (by decide) (by decide) (c' := 7) (s' := 309) rfl rfl
  obtain ⟨rfl, Nq19, eq19⟩ := hQ19
  have N19 := Fr.app N18 Nq19
  refine own_stW (T' := T19) (g' := (mkF m 325 #[iv shape, .val (.long pp), .second, iv pat, rv va, iv b_1, iv b_2, iv b_3, iv b_4, iv (4 : Int32), rv b10] [(.int (1 : Int32))])) st19 ?_
  clear st19
  refine own_stW (T' := T19) (g' := (mkF m 328 #[iv shape, .val (.long pp), .second, iv pat, rv va, iv b_1, iv b_2, iv b_3, iv b_4, iv (4 : Int32), rv b10] [])) (fun _ k_ => XS.ifNo X19.here hx rfl (hb hby at_325) rfl ((if0 _ _).trans (feq (by decide : ¬ ((1 : Int32) = (0 : Int32)))).1) k_) ?_
  refine own_stW (T' := T19) (g' := (mkF m 330 #[iv shape, .val (.long pp), .second, iv pat, rv va, iv b_1, iv b_2, iv b_3, iv b_4, iv (4 : Int32), rv b10] [(.ref b10)])) (fun _ k_ => XS.aload X19.here hx rfl (hb hby at_328) rfl rfl  k_) ?_
  refine own_stW (T' := T19) (g' := (mkF m 332 #[iv shape, .val (.long pp), .second, iv pat, rv va, iv b_1, iv b_2, iv b_3, iv b_4, iv (4 : Int32), rv b10] [(.ref va), (.ref b10)])) (fun _ k_ => XS.aload X19.here hx rfl (hb hby at_330) rfl rfl  k_) ?_
  refine own_stW (T' := T19) (g' := (mkF m 334 #[iv shape, .val (.long pp), .second, iv pat, rv va, iv b_1, iv b_2, iv b_3, iv b_4, iv (4 : Int32), rv b10] [(.int (4 : Int32)), (.ref va), (.ref b10)])) (fun _ k_ => XS.iload X19.here hx rfl (hb hby at_332) rfl  k_) ?_
  refine own_stW (T' := T19) (g' := (mkF m 335 #[iv shape, .val (.long pp), .second, iv pat, rv va, iv b_1, iv b_2, iv b_3, iv b_4, iv (4 : Int32), rv b10] [(.int (5 : Int32)), (.int (4 : Int32)), (.ref va), (.ref b10)])) (fun _ k_ => XS.iconst X19.here hx rfl (hb hby at_334) k_) ?_
  have ne20 : va ≠ b1 := Nat.ne_of_lt (Nat.lt_of_lt_of_le VA.lt (Nat.le_of_eq g1.symm))
  have f21 : Arv Z T6.heap va kc .char (6 : Int32) [(.int c0), (.int c1), (.int c2), (.int c3), (.int (58 : Int32)), (.int c5)] (.int (0 : Int32)) := f4.keep K6 (ninS ne20 nin0)
  have f22 : Arv Z T10.heap va kc .char (6 : Int32) [(.int c0), (.int c1), (.int c2), (.int c3), (.int (58 : Int32)), (.int c5)] (.int (0 : Int32)) := f21.keep K10 nin0
  obtain ⟨_, T23, L23, X23, hQ23, st23⟩ := own_callS X19 hx (y := own_m25) hown (mvT hZ (hw _ (List.mem_of_getElem? (i := 112) rfl))) (mvT hZ (hw _ (List.mem_of_getElem? (i := 113) rfl))) (mvT hZ (hw _ (List.mem_of_getElem? (i := 3) rfl))) (mvT hZ (hw _ (List.mem_of_getElem? (i := 114) rfl))) (by decide) (backOf (W := 0) (rm_at_5 l Z a0 hw [] b10 va (4 : Int32) u10 ku10 ([c5] : List Int32) 0 kc c0 c1 c2 c3 (58 : Int32) c5 cz fm T10.heap n0 f13 fq10_0 fq10_2 fq10_1 fq10_3 f22 (own_cRS hr5 own_cR0) (Nat.le_of_ble_eq_true rfl) (by decide) (Nat.le_of_ble_eq_true rfl) (by decide) rfl SC hcz SF hfm) hZ (hw _ (List.mem_of_getElem? (i := 114) rfl)) (hw _ (List.mem_of_getElem? (i := 3) rfl)) (by decide) (by decide)) (g := (mkF m 335 #[iv shape, .val (.long pp), .second, iv pat, rv va, iv b_1, iv b_2, iv b_3, iv b_4, iv (4 : Int32), rv b10] [(.int (5 : Int32)), (.int (4 : Int32)), (.ref va), (.ref b10)])) rfl (by rw [hml]; rfl) (argsL := [(.ref b10), (.ref va), (.int (4 : Int32)), (.int (5 : Int32))]) (rest := []) (lenOf pd__Ljava_lang_String__CII_Z rfl) rfl (by show 2 * 0 + _ ≤ _; exact Nat.le_of_eq rfl) (hb hby at_335) rfl eq19 (by decide) (by decide) (c' := 7) (s' := 309) rfl rfl
  obtain ⟨rfl, Nq23, eq23⟩ := hQ23
  have N23 := Fr.app N19 Nq23
  refine own_stW (T' := T23) (g' := (mkF m 338 #[iv shape, .val (.long pp), .second, iv pat, rv va, iv b_1, iv b_2, iv b_3, iv b_4, iv (4 : Int32), rv b10] [(.int (1 : Int32))])) st23 ?_
  clear st23
  refine own_stW (T' := T23) (g' := (mkF m 341 #[iv shape, .val (.long pp), .second, iv pat, rv va, iv b_1, iv b_2, iv b_3, iv b_4, iv (4 : Int32), rv b10] [])) (fun _ k_ => XS.ifNo X23.here hx rfl (hb hby at_338) rfl ((if0 _ _).trans (feq (by decide : ¬ ((1 : Int32) = (0 : Int32)))).1) k_) ?_
  refine own_stW (T' := T23) (g' := (mkF m 342 #[iv shape, .val (.long pp), .second, iv pat, rv va, iv b_1, iv b_2, iv b_3, iv b_4, iv (4 : Int32), rv b10] [(.int (1 : Int32))])) (fun _ k_ => XS.iconst X23.here hx rfl (hb hby at_341) k_) ?_
  refine own_stW (T' := T23) (g' := (mkF m 346 #[iv shape, .val (.long pp), .second, iv pat, rv va, iv b_1, iv b_2, iv b_3, iv b_4, iv (4 : Int32), rv b10] [(.int (1 : Int32))])) (fun _ k_ => XS.goto X23.here hx rfl (pc0 := 342) (pc' := 346) rfl (hb hby at_342) (by decide) (by decide) k_) ?_
  exact own_retNW X23 hZ hS0 (by rw [eq23]; exact (Nat.le_trans (Nat.le_trans (Nat.le_trans hk0 E1.1) K6.1) K10.1)) hEL (by rw [eq23]; exact CR11) hx (t := .boolean) hret (by simp) hlk (hb hby at_346) (by decide) (by decide) ⟨rfl, N23⟩
set_option maxRecDepth 65536 in
set_option maxHeartbeats 40000000 in
theorem seg_s191 {p : Program} {l : Launch} {e : Env} {s : State} {m : MethodId} {args : Array Value} {below : List Frame} {meth : Method} {c : Code} {T0 : State} {locs : List Loc} {Z : State} {a0 : Array Value} {vm0 : Vm} {k0 : Nat} (h0 : Heap) (hB : Heap) (n0 : Nat) (shape : Int32) (pp : Int64) (pat : Int32) (va : Addr) (kc : ClassId) (b_1 : Int32) (b_2 : Int32) (b_3 : Int32) (b_4 : Int32) (c0 : Int32) (c1 : Int32) (c2 : Int32) (c3 : Int32) (c4 : Int32) (c5 : Int32) (cz : Int32) (fm : Value)
    (X0 : Stand p l e room_1 (s.setVm vm0) m args below meth c T0 locs 3 294) (hx : p.tables.exec = Jvm.exec) (hZs : Z.Warmed39 s.vm) (hZ : Z.Warmed39 (s.setVm vm0).vm) (hS0 : s.Since vm0 k0) (hk0 : k0 ≤ hB.size) (CR0 : CHr Z consts_1 s.vm h0 vm0 hB) (hw : ∀ d ∈ tables_1, d.before a0 Z = true) (hby : c.code = code) (hml : c.maxLocals = 11) (howns : s.vm.findClass "com/example/sheafgate/sheafgate/store/SetSpecsLastPartPinLaw" = some m.cls) (hown : (s.setVm vm0).vm.findClass "com/example/sheafgate/sheafgate/store/SetSpecsLastPartPinLaw" = some m.cls) (hnm : meth.name = "law") (hret : meth.sig.returnType = some .boolean) (hlk : meth.locks = false) (e0 : T0.heap = hB) (N0 : Fr n0 locs) (O0 : Old Z n0 hB) (hr0 : ¬ c0 < 0 ∧ ¬ (255 : Int32) < c0) (hr1 : ¬ c1 < 0 ∧ ¬ (255 : Int32) < c1) (hr2 : ¬ c2 < 0 ∧ ¬ (255 : Int32) < c2) (hr3 : ¬ c3 < 0 ∧ ¬ (255 : Int32) < c3) (hr4 : ¬ c4 < 0 ∧ ¬ (255 : Int32) < c4) (hr5 : ¬ c5 < 0 ∧ ¬ (255 : Int32) < c5) (hn0 : ¬ (c0.toInt8.toInt32) = ((58 : Int32).toInt8.toInt32)) (hn5 : ¬ (c5.toInt8.toInt32) = ((58 : Int32).toInt8.toInt32)) (hb1 : (b_1 = 0 ∧ ¬ (c1.toInt8.toInt32) = ((58 : Int32).toInt8.toInt32)) ∨ (b_1 = 1 ∧ c1 = 58)) (hb2 : (b_2 = 0 ∧ ¬ (c2.toInt8.toInt32) = ((58 : Int32).toInt8.toInt32)) ∨ (b_2 = 1 ∧ c2 = 58)) (hb3 : (b_3 = 0 ∧ ¬ (c3.toInt8.toInt32) = ((58 : Int32).toInt8.toInt32)) ∨ (b_3 = 1 ∧ c3 = 58)) (hb4 : (b_4 = 0 ∧ ¬ (c4.toInt8.toInt32) = ((58 : Int32).toInt8.toInt32)) ∨ (b_4 = 1 ∧ c4 = 58)) (VA : Arv Z hB va kc .char (6 : Int32) [(.int c0), (.int c1), (.int c2), (.int c3), (.int c4), (.int c5)] (.int (0 : Int32))) (fva : n0 ≤ va) (SC : Sta Z Z.heap "java/lang/String" "COMPACT_STRINGS" "Z" (.int cz)) (hcz : ¬ cz = (0 : Int32)) (SF : Sta Z Z.heap "jdk/internal/util/Preconditions" "SIOOBE_FORMATTER" "Ljava/util/function/BiFunction;" fm) (hfm : fm.isRef = true) :
    own_W p e below s room_1.cells room_1.slots Z consts_1 h0 (own_L n0) T0 (mkF m 191 #[iv shape, .val (.long pp), .second, iv pat, rv va, iv b_1, iv b_2, iv b_3, iv b_4, .unset, .unset] []) := by
  have hEL := own_EW hw
  refine own_stW (T' := T0) (g' := (mkF m 192 #[iv shape, .val (.long pp), .second, iv pat, rv va, iv b_1, iv b_2, iv b_3, iv b_4, .unset, .unset] [(.int (-1 : Int32))])) (fun _ k_ => XS.iconst X0.here hx rfl (hb hby at_191) k_) ?_
  refine own_stW (T' := T0) (g' := (mkF m 194 #[iv shape, .val (.long pp), .second, iv pat, rv va, iv b_1, iv b_2, iv b_3, iv b_4, iv (-1 : Int32), .unset] [])) (fun _ k_ => XS.istore X0.here hx rfl (hb hby at_192) rfl (l' := #[iv shape, .val (.long pp), .second, iv pat, rv va, iv b_1, iv b_2, iv b_3, iv b_4, iv (-1 : Int32), .unset]) rfl k_) ?_
  refine own_stW (T' := T0) (g' := (mkF m 196 #[iv shape, .val (.long pp), .second, iv pat, rv va, iv b_1, iv b_2, iv b_3, iv b_4, iv (-1 : Int32), .unset] [(.int b_4)])) (fun _ k_ => XS.iload X0.here hx rfl (hb hby at_194) rfl  k_) ?_
  by_cases hc1 : b_4 = (0 : Int32)
  · refine own_stW (T' := T0) (g' := (mkF m 205 #[iv shape, .val (.long pp), .second, iv pat, rv va, iv b_1, iv b_2, iv b_3, iv b_4, iv (-1 : Int32), .unset] [])) (fun _ k_ => XS.ifYes X0.here hx rfl (pc0 := 196) (pc' := 205) rfl (hb hby at_196) rfl ((if0 _ _).trans (teq hc1).1) (by decide) (by decide) k_) ?_
    refine own_stW (T' := T0) (g' := (mkF m 207 #[iv shape, .val (.long pp), .second, iv pat, rv va, iv b_1, iv b_2, iv b_3, iv b_4, iv (-1 : Int32), .unset] [(.int b_3)])) (fun _ k_ => XS.iload X0.here hx rfl (hb hby at_205) rfl  k_) ?_
    by_cases hc2 : b_3 = (0 : Int32)
    · refine own_stW (T' := T0) (g' := (mkF m 216 #[iv shape, .val (.long pp), .second, iv pat, rv va, iv b_1, iv b_2, iv b_3, iv b_4, iv (-1 : Int32), .unset] [])) (fun _ k_ => XS.ifYes X0.here hx rfl (pc0 := 207) (pc' := 216) rfl (hb hby at_207) rfl ((if0 _ _).trans (teq hc2).1) (by decide) (by decide) k_) ?_
      refine own_stW (T' := T0) (g' := (mkF m 218 #[iv shape, .val (.long pp), .second, iv pat, rv va, iv b_1, iv b_2, iv b_3, iv b_4, iv (-1 : Int32), .unset] [(.int b_2)])) (fun _ k_ => XS.iload X0.here hx rfl (hb hby at_216) rfl  k_) ?_
      by_cases hc3 : b_2 = (0 : Int32)
      · refine own_stW (T' := T0) (g' := (mkF m 227 #[iv shape, .val (.long pp), .second, iv pat, rv va, iv b_1, iv b_2, iv b_3, iv b_4, iv (-1 : Int32), .unset] [])) (fun _ k_ => XS.ifYes X0.here hx rfl (pc0 := 218) (pc' := 227) rfl (hb hby at_218) rfl ((if0 _ _).trans (teq hc3).1) (by decide) (by decide) k_) ?_
        refine own_stW (T' := T0) (g' := (mkF m 229 #[iv shape, .val (.long pp), .second, iv pat, rv va, iv b_1, iv b_2, iv b_3, iv b_4, iv (-1 : Int32), .unset] [(.int b_1)])) (fun _ k_ => XS.iload X0.here hx rfl (hb hby at_227) rfl  k_) ?_
        by_cases hc4 : b_1 = (0 : Int32)
        · refine own_stW (T' := T0) (g' := (mkF m 235 #[iv shape, .val (.long pp), .second, iv pat, rv va, iv b_1, iv b_2, iv b_3, iv b_4, iv (-1 : Int32), .unset] [])) (fun _ k_ => XS.ifYes X0.here hx rfl (pc0 := 229) (pc' := 235) rfl (hb hby at_229) rfl ((if0 _ _).trans (teq hc4).1) (by decide) (by decide) k_) ?_
          exact seg_tm h0 hB n0 shape pp pat va kc b_1 b_2 b_3 b_4 c0 c1 c2 c3 c4 c5 cz fm X0 hx hZs hZ hS0 hk0 CR0 hw hby hml howns hown hnm hret hlk e0 N0 O0 hr0 hr1 hr2 hr3 hr4 hr5 hn0 (own_b0 hb1 hc4) (own_b0 hb2 hc3) (own_b0 hb3 hc2) (own_b0 hb4 hc1) hn5 VA SC hcz SF hfm
        · refine own_stW (T' := T0) (g' := (mkF m 232 #[iv shape, .val (.long pp), .second, iv pat, rv va, iv b_1, iv b_2, iv b_3, iv b_4, iv (-1 : Int32), .unset] [])) (fun _ k_ => XS.ifNo X0.here hx rfl (hb hby at_229) rfl ((if0 _ _).trans (feq hc4).1) k_) ?_
          refine own_stW (T' := T0) (g' := (mkF m 233 #[iv shape, .val (.long pp), .second, iv pat, rv va, iv b_1, iv b_2, iv b_3, iv b_4, iv (-1 : Int32), .unset] [(.int (1 : Int32))])) (fun _ k_ => XS.iconst X0.here hx rfl (hb hby at_232) k_) ?_
          refine own_stW (T' := T0) (g' := (mkF m 235 #[iv shape, .val (.long pp), .second, iv pat, rv va, iv b_1, iv b_2, iv b_3, iv b_4, iv (1 : Int32), .unset] [])) (fun _ k_ => XS.istore X0.here hx rfl (hb hby at_233) rfl (l' := #[iv shape, .val (.long pp), .second, iv pat, rv va, iv b_1, iv b_2, iv b_3, iv b_4, iv (1 : Int32), .unset]) rfl k_) ?_
          have hL := own_b1 hb1 hc4
          subst hL
          exact seg_t1 h0 hB n0 shape pp pat va kc b_1 b_2 b_3 b_4 c0 c2 c3 c4 c5 cz fm X0 hx hZs hZ hS0 hk0 CR0 hw hby hml howns hown hnm hret hlk e0 N0 O0 hr0 hr2 hr3 hr4 hr5 (own_b0 hb2 hc3) (own_b0 hb3 hc2) (own_b0 hb4 hc1) hn5 VA SC hcz SF hfm
      · refine own_stW (T' := T0) (g' := (mkF m 221 #[iv shape, .val (.long pp), .second, iv pat, rv va, iv b_1, iv b_2, iv b_3, iv b_4, iv (-1 : Int32), .unset] [])) (fun _ k_ => XS.ifNo X0.here hx rfl (hb hby at_218) rfl ((if0 _ _).trans (feq hc3).1) k_) ?_
        refine own_stW (T' := T0) (g' := (mkF m 222 #[iv shape, .val (.long pp), .second, iv pat, rv va, iv b_1, iv b_2, iv b_3, iv b_4, iv (-1 : Int32), .unset] [(.int (2 : Int32))])) (fun _ k_ => XS.iconst X0.here hx rfl (hb hby at_221) k_) ?_
        refine own_stW (T' := T0) (g' := (mkF m 224 #[iv shape, .val (.long pp), .second, iv pat, rv va, iv b_1, iv b_2, iv b_3, iv b_4, iv (2 : Int32), .unset] [])) (fun _ k_ => XS.istore X0.here hx rfl (hb hby at_222) rfl (l' := #[iv shape, .val (.long pp), .second, iv pat, rv va, iv b_1, iv b_2, iv b_3, iv b_4, iv (2 : Int32), .unset]) rfl k_) ?_
        refine own_stW (T' := T0) (g' := (mkF m 235 #[iv shape, .val (.long pp), .second, iv pat, rv va, iv b_1, iv b_2, iv b_3, iv b_4, iv (2 : Int32), .unset] [])) (fun _ k_ => XS.goto X0.here hx rfl (pc0 := 224) (pc' := 235) rfl (hb hby at_224) (by decide) (by decide) k_) ?_
        have hL := own_b1 hb2 hc3
        subst hL
        exact seg_t2 h0 hB n0 shape pp pat va kc b_1 b_2 b_3 b_4 c0 c1 c3 c4 c5 cz fm X0 hx hZs hZ hS0 hk0 CR0 hw hby hml howns hown hnm hret hlk e0 N0 O0 hr0 hr1 hr3 hr4 hr5 (own_b0 hb3 hc2) (own_b0 hb4 hc1) hn5 VA SC hcz SF hfm
    · refine own_stW (T' := T0) (g' := (mkF m 210 #[iv shape, .val (.long pp), .second, iv pat, rv va, iv b_1, iv b_2, iv b_3, iv b_4, iv (-1 : Int32), .unset] [])) (fun _ k_ => XS.ifNo X0.here hx rfl (hb hby at_207) rfl ((if0 _ _).trans (feq hc2).1) k_) ?_
      refine own_stW (T' := T0) (g' := (mkF m 211 #[iv shape, .val (.long pp), .second, iv pat, rv va, iv b_1, iv b_2, iv b_3, iv b_4, iv (-1 : Int32), .unset] [(.int (3 : Int32))])) (fun _ k_ => XS.iconst X0.here hx rfl (hb hby at_210) k_) ?_
      refine own_stW (T' := T0) (g' := (mkF m 213 #[iv shape, .val (.long pp), .second, iv pat, rv va, iv b_1, iv b_2, iv b_3, iv b_4, iv (3 : Int32), .unset] [])) (fun _ k_ => XS.istore X0.here hx rfl (hb hby at_211) rfl (l' := #[iv shape, .val (.long pp), .second, iv pat, rv va, iv b_1, iv b_2, iv b_3, iv b_4, iv (3 : Int32), .unset]) rfl k_) ?_
      refine own_stW (T' := T0) (g' := (mkF m 235 #[iv shape, .val (.long pp), .second, iv pat, rv va, iv b_1, iv b_2, iv b_3, iv b_4, iv (3 : Int32), .unset] [])) (fun _ k_ => XS.goto X0.here hx rfl (pc0 := 213) (pc' := 235) rfl (hb hby at_213) (by decide) (by decide) k_) ?_
      have hL := own_b1 hb3 hc2
      subst hL
      exact seg_t3 h0 hB n0 shape pp pat va kc b_1 b_2 b_3 b_4 c0 c1 c2 c4 c5 cz fm X0 hx hZs hZ hS0 hk0 CR0 hw hby hml howns hown hnm hret hlk e0 N0 O0 hr0 hr1 hr2 hr4 hr5 (own_b0 hb4 hc1) hn5 VA SC hcz SF hfm
  · refine own_stW (T' := T0) (g' := (mkF m 199 #[iv shape, .val (.long pp), .second, iv pat, rv va, iv b_1, iv b_2, iv b_3, iv b_4, iv (-1 : Int32), .unset] [])) (fun _ k_ => XS.ifNo X0.here hx rfl (hb hby at_196) rfl ((if0 _ _).trans (feq hc1).1) k_) ?_
    refine own_stW (T' := T0) (g' := (mkF m 200 #[iv shape, .val (.long pp), .second, iv pat, rv va, iv b_1, iv b_2, iv b_3, iv b_4, iv (-1 : Int32), .unset] [(.int (4 : Int32))])) (fun _ k_ => XS.iconst X0.here hx rfl (hb hby at_199) k_) ?_
    refine own_stW (T' := T0) (g' := (mkF m 202 #[iv shape, .val (.long pp), .second, iv pat, rv va, iv b_1, iv b_2, iv b_3, iv b_4, iv (4 : Int32), .unset] [])) (fun _ k_ => XS.istore X0.here hx rfl (hb hby at_200) rfl (l' := #[iv shape, .val (.long pp), .second, iv pat, rv va, iv b_1, iv b_2, iv b_3, iv b_4, iv (4 : Int32), .unset]) rfl k_) ?_
    refine own_stW (T' := T0) (g' := (mkF m 235 #[iv shape, .val (.long pp), .second, iv pat, rv va, iv b_1, iv b_2, iv b_3, iv b_4, iv (4 : Int32), .unset] [])) (fun _ k_ => XS.goto X0.here hx rfl (pc0 := 202) (pc' := 235) rfl (hb hby at_202) (by decide) (by decide) k_) ?_
    have hL := own_b1 hb4 hc1
    subst hL
    exact seg_t4 h0 hB n0 shape pp pat va kc b_1 b_2 b_3 b_4 c0 c1 c2 c3 c5 cz fm X0 hx hZs hZ hS0 hk0 CR0 hw hby hml howns hown hnm hret hlk e0 N0 O0 hr0 hr1 hr2 hr3 hr5 hn5 VA SC hcz SF hfm
set_option maxRecDepth 65536 in
set_option maxHeartbeats 40000000 in
theorem seg_s180 {p : Program} {l : Launch} {e : Env} {s : State} {m : MethodId} {args : Array Value} {below : List Frame} {meth : Method} {c : Code} {T0 : State} {locs : List Loc} {Z : State} {a0 : Array Value} {vm0 : Vm} {k0 : Nat} (h0 : Heap) (hB : Heap) (n0 : Nat) (shape : Int32) (pp : Int64) (pat : Int32) (va : Addr) (kc : ClassId) (b_1 : Int32) (b_2 : Int32) (b_3 : Int32) (b_4 : Int32) (c0 : Int32) (c1 : Int32) (c2 : Int32) (c3 : Int32) (c4 : Int32) (c5 : Int32) (cz : Int32) (fm : Value)
    (X0 : Stand p l e room_1 (s.setVm vm0) m args below meth c T0 locs 3 294) (hx : p.tables.exec = Jvm.exec) (hZs : Z.Warmed39 s.vm) (hZ : Z.Warmed39 (s.setVm vm0).vm) (hS0 : s.Since vm0 k0) (hk0 : k0 ≤ hB.size) (CR0 : CHr Z consts_1 s.vm h0 vm0 hB) (hw : ∀ d ∈ tables_1, d.before a0 Z = true) (hby : c.code = code) (hml : c.maxLocals = 11) (howns : s.vm.findClass "com/example/sheafgate/sheafgate/store/SetSpecsLastPartPinLaw" = some m.cls) (hown : (s.setVm vm0).vm.findClass "com/example/sheafgate/sheafgate/store/SetSpecsLastPartPinLaw" = some m.cls) (hnm : meth.name = "law") (hret : meth.sig.returnType = some .boolean) (hlk : meth.locks = false) (e0 : T0.heap = hB) (N0 : Fr n0 locs) (O0 : Old Z n0 hB) (hr0 : ¬ c0 < 0 ∧ ¬ (255 : Int32) < c0) (hr1 : ¬ c1 < 0 ∧ ¬ (255 : Int32) < c1) (hr2 : ¬ c2 < 0 ∧ ¬ (255 : Int32) < c2) (hr3 : ¬ c3 < 0 ∧ ¬ (255 : Int32) < c3) (hr4 : ¬ c4 < 0 ∧ ¬ (255 : Int32) < c4) (hr5 : ¬ c5 < 0 ∧ ¬ (255 : Int32) < c5) (hn0 : ¬ (c0.toInt8.toInt32) = ((58 : Int32).toInt8.toInt32)) (hn5 : ¬ (c5.toInt8.toInt32) = ((58 : Int32).toInt8.toInt32)) (hb1 : (b_1 = 0 ∧ ¬ (c1.toInt8.toInt32) = ((58 : Int32).toInt8.toInt32)) ∨ (b_1 = 1 ∧ c1 = 58)) (hb2 : (b_2 = 0 ∧ ¬ (c2.toInt8.toInt32) = ((58 : Int32).toInt8.toInt32)) ∨ (b_2 = 1 ∧ c2 = 58)) (hb3 : (b_3 = 0 ∧ ¬ (c3.toInt8.toInt32) = ((58 : Int32).toInt8.toInt32)) ∨ (b_3 = 1 ∧ c3 = 58)) (hb4 : b_4 = 0 ∨ b_4 = 1) (hn4 : ¬ (c4.toInt8.toInt32) = ((58 : Int32).toInt8.toInt32)) (VA : Arv Z hB va kc .char (6 : Int32) [(.int c0), (.int c1), (.int c2), (.int c3), (.int c4), (.int c5)] (.int (0 : Int32))) (fva : n0 ≤ va) (SC : Sta Z Z.heap "java/lang/String" "COMPACT_STRINGS" "Z" (.int cz)) (hcz : ¬ cz = (0 : Int32)) (SF : Sta Z Z.heap "jdk/internal/util/Preconditions" "SIOOBE_FORMATTER" "Ljava/util/function/BiFunction;" fm) (hfm : fm.isRef = true) :
    own_W p e below s room_1.cells room_1.slots Z consts_1 h0 (own_L n0) T0 (mkF m 180 #[iv shape, .val (.long pp), .second, iv pat, rv va, iv b_1, iv b_2, iv b_3, iv b_4, .unset, .unset] []) := by
  have hEL := own_EW hw
  refine own_stW (T' := T0) (g' := (mkF m 182 #[iv shape, .val (.long pp), .second, iv pat, rv va, iv b_1, iv b_2, iv b_3, iv b_4, .unset, .unset] [(.int b_4)])) (fun _ k_ => XS.iload X0.here hx rfl (hb hby at_180) rfl  k_) ?_
  by_cases hc1 : b_4 = (0 : Int32)
  · refine own_stW (T' := T0) (g' := (mkF m 191 #[iv shape, .val (.long pp), .second, iv pat, rv va, iv b_1, iv b_2, iv b_3, iv b_4, .unset, .unset] [])) (fun _ k_ => XS.ifYes X0.here hx rfl (pc0 := 182) (pc' := 191) rfl (hb hby at_182) rfl ((if0 _ _).trans (teq hc1).1) (by decide) (by decide) k_) ?_
    exact seg_s191 h0 hB n0 shape pp pat va kc b_1 b_2 b_3 b_4 c0 c1 c2 c3 c4 c5 cz fm X0 hx hZs hZ hS0 hk0 CR0 hw hby hml howns hown hnm hret hlk e0 N0 O0 hr0 hr1 hr2 hr3 hr4 hr5 hn0 hn5 hb1 hb2 hb3 (Or.inl ⟨hc1, hn4⟩)  VA fva SC hcz SF hfm
  · refine own_stW (T' := T0) (g' := (mkF m 185 #[iv shape, .val (.long pp), .second, iv pat, rv va, iv b_1, iv b_2, iv b_3, iv b_4, .unset, .unset] [])) (fun _ k_ => XS.ifNo X0.here hx rfl (hb hby at_182) rfl ((if0 _ _).trans (feq hc1).1) k_) ?_
    refine own_stW (T' := T0) (g' := (mkF m 187 #[iv shape, .val (.long pp), .second, iv pat, rv va, iv b_1, iv b_2, iv b_3, iv b_4, .unset, .unset] [(.ref va)])) (fun _ k_ => XS.aload X0.here hx rfl (hb hby at_185) rfl rfl  k_) ?_
    refine own_stW (T' := T0) (g' := (mkF m 188 #[iv shape, .val (.long pp), .second, iv pat, rv va, iv b_1, iv b_2, iv b_3, iv b_4, .unset, .unset] [(.int (4 : Int32)), (.ref va)])) (fun _ k_ => XS.iconst X0.here hx rfl (hb hby at_187) k_) ?_
    refine own_stW (T' := T0) (g' := (mkF m 190 #[iv shape, .val (.long pp), .second, iv pat, rv va, iv b_1, iv b_2, iv b_3, iv b_4, .unset, .unset] [(.int (58 : Int32)), (.int (4 : Int32)), (.ref va)])) (fun _ k_ => XS.bipush X0.here hx rfl (hb hby at_188) k_) ?_
    obtain ⟨cl2, Ar2, q2, S2, N2, H2, G2⟩ := id VA
    have hin2 : ¬ ((4 : Int32) < 0 ∨ cl2.slots.size ≤ ((4 : Int32)).toNatClampNeg) := inb_of S2 ⟨by decide, by decide⟩
    obtain ⟨T3, h3, X3, e3, W3, st3⟩ := stC X0 hx hZ e0 Ar2 (j := (4 : Int32)) hin2 (g := (mkF m 190 #[iv shape, .val (.long pp), .second, iv pat, rv va, iv b_1, iv b_2, iv b_3, iv b_4, .unset, .unset] [(.int (58 : Int32)), (.int (4 : Int32)), (.ref va)])) rfl rfl (hb hby at_190)
    have CR4 : CHr Z consts_1 s.vm h0 vm0 h3 := CR0.trans (CHr.wr W3 (Safe.arv hZ.alike VA (by decide)) CR0.1)
    have V3 : Arv Z h3 va kc .char (6 : Int32) [(.int c0), (.int c1), (.int c2), (.int c3), (.int (nar .char (58 : Int32))), (.int c5)] (.int (0 : Int32)) := Arv.set Ar2 q2 S2 N2 H2 G2 (fits_nar_char _) W3 4 rfl (Nat.le_of_ble_eq_true rfl)
    have Vn3 : Arv Z h3 va kc .char (6 : Int32) [(.int c0), (.int c1), (.int c2), (.int c3), (.int (58 : Int32)), (.int c5)] (.int (0 : Int32)) := by simpa only [own_c58] using V3
    have Nx3 := Fr.snoc X3 N0 fva
    refine own_stW (T' := T3) (g' := (mkF m 191 #[iv shape, .val (.long pp), .second, iv pat, rv va, iv b_1, iv b_2, iv b_3, iv b_4, .unset, .unset] [])) st3 ?_
    clear hin2 G2 H2 N2 S2 q2 Ar2 cl2 st3
    have f5 : Old Z n0 h3 := O0.wr W3 fva
    exact seg_s191 h0 h3 n0 shape pp pat va kc b_1 b_2 b_3 b_4 c0 c1 c2 c3 (58 : Int32) c5 cz fm X3 hx hZs hZ hS0 (Nat.le_trans hk0 (Nat.le_of_eq (Wr.size W3).symm)) CR4 hw hby hml howns hown hnm hret hlk e3 Nx3 f5 hr0 hr1 hr2 hr3 (by decide) hr5 hn0 hn5 hb1 hb2 hb3 (Or.inr ⟨hb4.resolve_left hc1, rfl⟩)  Vn3 fva SC hcz SF hfm
set_option maxRecDepth 65536 in
set_option maxHeartbeats 40000000 in
theorem seg_s169 {p : Program} {l : Launch} {e : Env} {s : State} {m : MethodId} {args : Array Value} {below : List Frame} {meth : Method} {c : Code} {T0 : State} {locs : List Loc} {Z : State} {a0 : Array Value} {vm0 : Vm} {k0 : Nat} (h0 : Heap) (hB : Heap) (n0 : Nat) (shape : Int32) (pp : Int64) (pat : Int32) (va : Addr) (kc : ClassId) (b_1 : Int32) (b_2 : Int32) (b_3 : Int32) (b_4 : Int32) (c0 : Int32) (c1 : Int32) (c2 : Int32) (c3 : Int32) (c4 : Int32) (c5 : Int32) (cz : Int32) (fm : Value)
    (X0 : Stand p l e room_1 (s.setVm vm0) m args below meth c T0 locs 3 294) (hx : p.tables.exec = Jvm.exec) (hZs : Z.Warmed39 s.vm) (hZ : Z.Warmed39 (s.setVm vm0).vm) (hS0 : s.Since vm0 k0) (hk0 : k0 ≤ hB.size) (CR0 : CHr Z consts_1 s.vm h0 vm0 hB) (hw : ∀ d ∈ tables_1, d.before a0 Z = true) (hby : c.code = code) (hml : c.maxLocals = 11) (howns : s.vm.findClass "com/example/sheafgate/sheafgate/store/SetSpecsLastPartPinLaw" = some m.cls) (hown : (s.setVm vm0).vm.findClass "com/example/sheafgate/sheafgate/store/SetSpecsLastPartPinLaw" = some m.cls) (hnm : meth.name = "law") (hret : meth.sig.returnType = some .boolean) (hlk : meth.locks = false) (e0 : T0.heap = hB) (N0 : Fr n0 locs) (O0 : Old Z n0 hB) (hr0 : ¬ c0 < 0 ∧ ¬ (255 : Int32) < c0) (hr1 : ¬ c1 < 0 ∧ ¬ (255 : Int32) < c1) (hr2 : ¬ c2 < 0 ∧ ¬ (255 : Int32) < c2) (hr3 : ¬ c3 < 0 ∧ ¬ (255 : Int32) < c3) (hr4 : ¬ c4 < 0 ∧ ¬ (255 : Int32) < c4) (hr5 : ¬ c5 < 0 ∧ ¬ (255 : Int32) < c5) (hn0 : ¬ (c0.toInt8.toInt32) = ((58 : Int32).toInt8.toInt32)) (hn5 : ¬ (c5.toInt8.toInt32) = ((58 : Int32).toInt8.toInt32)) (hb1 : (b_1 = 0 ∧ ¬ (c1.toInt8.toInt32) = ((58 : Int32).toInt8.toInt32)) ∨ (b_1 = 1 ∧ c1 = 58)) (hb2 : (b_2 = 0 ∧ ¬ (c2.toInt8.toInt32) = ((58 : Int32).toInt8.toInt32)) ∨ (b_2 = 1 ∧ c2 = 58)) (hb3 : b_3 = 0 ∨ b_3 = 1) (hn3 : ¬ (c3.toInt8.toInt32) = ((58 : Int32).toInt8.toInt32)) (hb4 : b_4 = 0 ∨ b_4 = 1) (hn4 : ¬ (c4.toInt8.toInt32) = ((58 : Int32).toInt8.toInt32)) (VA : Arv Z hB va kc .char (6 : Int32) [(.int c0), (.int c1), (.int c2), (.int c3), (.int c4), (.int c5)] (.int (0 : Int32))) (fva : n0 ≤ va) (SC : Sta Z Z.heap "java/lang/String" "COMPACT_STRINGS" "Z" (.int cz)) (hcz : ¬ cz = (0 : Int32)) (SF : Sta Z Z.heap "jdk/internal/util/Preconditions" "SIOOBE_FORMATTER" "Ljava/util/function/BiFunction;" fm) (hfm : fm.isRef = true) :
    own_W p e below s room_1.cells room_1.slots Z consts_1 h0 (own_L n0) T0 (mkF m 169 #[iv shape, .val (.long pp), .second, iv pat, rv va, iv b_1, iv b_2, iv b_3, iv b_4, .unset, .unset] []) := by
  have hEL := own_EW hw
  refine own_stW (T' := T0) (g' := (mkF m 171 #[iv shape, .val (.long pp), .second, iv pat, rv va, iv b_1, iv b_2, iv b_3, iv b_4, .unset, .unset] [(.int b_3)])) (fun _ k_ => XS.iload X0.here hx rfl (hb hby at_169) rfl  k_) ?_
  by_cases hc1 : b_3 = (0 : Int32)
  · refine own_stW (T' := T0) (g' := (mkF m 180 #[iv shape, .val (.long pp), .second, iv pat, rv va, iv b_1, iv b_2, iv b_3, iv b_4, .unset, .unset] [])) (fun _ k_ => XS.ifYes X0.here hx rfl (pc0 := 171) (pc' := 180) rfl (hb hby at_171) rfl ((if0 _ _).trans (teq hc1).1) (by decide) (by decide) k_) ?_
    exact seg_s180 h0 hB n0 shape pp pat va kc b_1 b_2 b_3 b_4 c0 c1 c2 c3 c4 c5 cz fm X0 hx hZs hZ hS0 hk0 CR0 hw hby hml howns hown hnm hret hlk e0 N0 O0 hr0 hr1 hr2 hr3 hr4 hr5 hn0 hn5 hb1 hb2 (Or.inl ⟨hc1, hn3⟩) hb4 hn4 VA fva SC hcz SF hfm
  · refine own_stW (T' := T0) (g' := (mkF m 174 #[iv shape, .val (.long pp), .second, iv pat, rv va, iv b_1, iv b_2, iv b_3, iv b_4, .unset, .unset] [])) (fun _ k_ => XS.ifNo X0.here hx rfl (hb hby at_171) rfl ((if0 _ _).trans (feq hc1).1) k_) ?_
    refine own_stW (T' := T0) (g' := (mkF m 176 #[iv shape, .val (.long pp), .second, iv pat, rv va, iv b_1, iv b_2, iv b_3, iv b_4, .unset, .unset] [(.ref va)])) (fun _ k_ => XS.aload X0.here hx rfl (hb hby at_174) rfl rfl  k_) ?_
    refine own_stW (T' := T0) (g' := (mkF m 177 #[iv shape, .val (.long pp), .second, iv pat, rv va, iv b_1, iv b_2, iv b_3, iv b_4, .unset, .unset] [(.int (3 : Int32)), (.ref va)])) (fun _ k_ => XS.iconst X0.here hx rfl (hb hby at_176) k_) ?_
    refine own_stW (T' := T0) (g' := (mkF m 179 #[iv shape, .val (.long pp), .second, iv pat, rv va, iv b_1, iv b_2, iv b_3, iv b_4, .unset, .unset] [(.int (58 : Int32)), (.int (3 : Int32)), (.ref va)])) (fun _ k_ => XS.bipush X0.here hx rfl (hb hby at_177) k_) ?_
    obtain ⟨cl2, Ar2, q2, S2, N2, H2, G2⟩ := id VA
    have hin2 : ¬ ((3 : Int32) < 0 ∨ cl2.slots.size ≤ ((3 : Int32)).toNatClampNeg) := inb_of S2 ⟨by decide, by decide⟩
    obtain ⟨T3, h3, X3, e3, W3, st3⟩ := stC X0 hx hZ e0 Ar2 (j := (3 : Int32)) hin2 (g := (mkF m 179 #[iv shape, .val (.long pp), .second, iv pat, rv va, iv b_1, iv b_2, iv b_3, iv b_4, .unset, .unset] [(.int (58 : Int32)), (.int (3 : Int32)), (.ref va)])) rfl rfl (hb hby at_179)
    have CR4 : CHr Z consts_1 s.vm h0 vm0 h3 := CR0.trans (CHr.wr W3 (Safe.arv hZ.alike VA (by decide)) CR0.1)
    have V3 : Arv Z h3 va kc .char (6 : Int32) [(.int c0), (.int c1), (.int c2), (.int (nar .char (58 : Int32))), (.int c4), (.int c5)] (.int (0 : Int32)) := Arv.set Ar2 q2 S2 N2 H2 G2 (fits_nar_char _) W3 3 rfl (Nat.le_of_ble_eq_true rfl)
    have Vn3 : Arv Z h3 va kc .char (6 : Int32) [(.int c0), (.int c1), (.int c2), (.int (58 : Int32)), (.int c4), (.int c5)] (.int (0 : Int32)) := by simpa only [own_c58] using V3
    have Nx3 := Fr.snoc X3 N0 fva
    refine own_stW (T' := T3) (g' := (mkF m 180 #[iv shape, .val (.long pp), .second, iv pat, rv va, iv b_1, iv b_2, iv b_3, iv b_4, .unset, .unset] [])) st3 ?_
    clear hin2 G2 H2 N2 S2 q2 Ar2 cl2 st3
    have f5 : Old Z n0 h3 := O0.wr W3 fva
    exact seg_s180 h0 h3 n0 shape pp pat va kc b_1 b_2 b_3 b_4 c0 c1 c2 (58 : Int32) c4 c5 cz fm X3 hx hZs hZ hS0 (Nat.le_trans hk0 (Nat.le_of_eq (Wr.size W3).symm)) CR4 hw hby hml howns hown hnm hret hlk e3 Nx3 f5 hr0 hr1 hr2 (by decide) hr4 hr5 hn0 hn5 hb1 hb2 (Or.inr ⟨hb3.resolve_left hc1, rfl⟩) hb4 hn4 Vn3 fva SC hcz SF hfm
set_option maxRecDepth 65536 in
set_option maxHeartbeats 40000000 in
theorem seg_s158 {p : Program} {l : Launch} {e : Env} {s : State} {m : MethodId} {args : Array Value} {below : List Frame} {meth : Method} {c : Code} {T0 : State} {locs : List Loc} {Z : State} {a0 : Array Value} {vm0 : Vm} {k0 : Nat} (h0 : Heap) (hB : Heap) (n0 : Nat) (shape : Int32) (pp : Int64) (pat : Int32) (va : Addr) (kc : ClassId) (b_1 : Int32) (b_2 : Int32) (b_3 : Int32) (b_4 : Int32) (c0 : Int32) (c1 : Int32) (c2 : Int32) (c3 : Int32) (c4 : Int32) (c5 : Int32) (cz : Int32) (fm : Value)
    (X0 : Stand p l e room_1 (s.setVm vm0) m args below meth c T0 locs 3 294) (hx : p.tables.exec = Jvm.exec) (hZs : Z.Warmed39 s.vm) (hZ : Z.Warmed39 (s.setVm vm0).vm) (hS0 : s.Since vm0 k0) (hk0 : k0 ≤ hB.size) (CR0 : CHr Z consts_1 s.vm h0 vm0 hB) (hw : ∀ d ∈ tables_1, d.before a0 Z = true) (hby : c.code = code) (hml : c.maxLocals = 11) (howns : s.vm.findClass "com/example/sheafgate/sheafgate/store/SetSpecsLastPartPinLaw" = some m.cls) (hown : (s.setVm vm0).vm.findClass "com/example/sheafgate/sheafgate/store/SetSpecsLastPartPinLaw" = some m.cls) (hnm : meth.name = "law") (hret : meth.sig.returnType = some .boolean) (hlk : meth.locks = false) (e0 : T0.heap = hB) (N0 : Fr n0 locs) (O0 : Old Z n0 hB) (hr0 : ¬ c0 < 0 ∧ ¬ (255 : Int32) < c0) (hr1 : ¬ c1 < 0 ∧ ¬ (255 : Int32) < c1) (hr2 : ¬ c2 < 0 ∧ ¬ (255 : Int32) < c2) (hr3 : ¬ c3 < 0 ∧ ¬ (255 : Int32) < c3) (hr4 : ¬ c4 < 0 ∧ ¬ (255 : Int32) < c4) (hr5 : ¬ c5 < 0 ∧ ¬ (255 : Int32) < c5) (hn0 : ¬ (c0.toInt8.toInt32) = ((58 : Int32).toInt8.toInt32)) (hn5 : ¬ (c5.toInt8.toInt32) = ((58 : Int32).toInt8.toInt32)) (hb1 : (b_1 = 0 ∧ ¬ (c1.toInt8.toInt32) = ((58 : Int32).toInt8.toInt32)) ∨ (b_1 = 1 ∧ c1 = 58)) (hb2 : b_2 = 0 ∨ b_2 = 1) (hn2 : ¬ (c2.toInt8.toInt32) = ((58 : Int32).toInt8.toInt32)) (hb3 : b_3 = 0 ∨ b_3 = 1) (hn3 : ¬ (c3.toInt8.toInt32) = ((58 : Int32).toInt8.toInt32)) (hb4 : b_4 = 0 ∨ b_4 = 1) (hn4 : ¬ (c4.toInt8.toInt32) = ((58 : Int32).toInt8.toInt32)) (VA : Arv Z hB va kc .char (6 : Int32) [(.int c0), (.int c1), (.int c2), (.int c3), (.int c4), (.int c5)] (.int (0 : Int32))) (fva : n0 ≤ va) (SC : Sta Z Z.heap "java/lang/String" "COMPACT_STRINGS" "Z" (.int cz)) (hcz : ¬ cz = (0 : Int32)) (SF : Sta Z Z.heap "jdk/internal/util/Preconditions" "SIOOBE_FORMATTER" "Ljava/util/function/BiFunction;" fm) (hfm : fm.isRef = true) :
    own_W p e below s room_1.cells room_1.slots Z consts_1 h0 (own_L n0) T0 (mkF m 158 #[iv shape, .val (.long pp), .second, iv pat, rv va, iv b_1, iv b_2, iv b_3, iv b_4, .unset, .unset] []) := by
  have hEL := own_EW hw
  refine own_stW (T' := T0) (g' := (mkF m 160 #[iv shape, .val (.long pp), .second, iv pat, rv va, iv b_1, iv b_2, iv b_3, iv b_4, .unset, .unset] [(.int b_2)])) (fun _ k_ => XS.iload X0.here hx rfl (hb hby at_158) rfl  k_) ?_
  by_cases hc1 : b_2 = (0 : Int32)
  · refine own_stW (T' := T0) (g' := (mkF m 169 #[iv shape, .val (.long pp), .second, iv pat, rv va, iv b_1, iv b_2, iv b_3, iv b_4, .unset, .unset] [])) (fun _ k_ => XS.ifYes X0.here hx rfl (pc0 := 160) (pc' := 169) rfl (hb hby at_160) rfl ((if0 _ _).trans (teq hc1).1) (by decide) (by decide) k_) ?_
    exact seg_s169 h0 hB n0 shape pp pat va kc b_1 b_2 b_3 b_4 c0 c1 c2 c3 c4 c5 cz fm X0 hx hZs hZ hS0 hk0 CR0 hw hby hml howns hown hnm hret hlk e0 N0 O0 hr0 hr1 hr2 hr3 hr4 hr5 hn0 hn5 hb1 (Or.inl ⟨hc1, hn2⟩) hb3 hn3 hb4 hn4 VA fva SC hcz SF hfm
  · refine own_stW (T' := T0) (g' := (mkF m 163 #[iv shape, .val (.long pp), .second, iv pat, rv va, iv b_1, iv b_2, iv b_3, iv b_4, .unset, .unset] [])) (fun _ k_ => XS.ifNo X0.here hx rfl (hb hby at_160) rfl ((if0 _ _).trans (feq hc1).1) k_) ?_
    refine own_stW (T' := T0) (g' := (mkF m 165 #[iv shape, .val (.long pp), .second, iv pat, rv va, iv b_1, iv b_2, iv b_3, iv b_4, .unset, .unset] [(.ref va)])) (fun _ k_ => XS.aload X0.here hx rfl (hb hby at_163) rfl rfl  k_) ?_
    refine own_stW (T' := T0) (g' := (mkF m 166 #[iv shape, .val (.long pp), .second, iv pat, rv va, iv b_1, iv b_2, iv b_3, iv b_4, .unset, .unset] [(.int (2 : Int32)), (.ref va)])) (fun _ k_ => XS.iconst X0.here hx rfl (hb hby at_165) k_) ?_
    refine own_stW (T' := T0) (g' := (mkF m 168 #[iv shape, .val (.long pp), .second, iv pat, rv va, iv b_1, iv b_2, iv b_3, iv b_4, .unset, .unset] [(.int (58 : Int32)), (.int (2 : Int32)), (.ref va)])) (fun _ k_ => XS.bipush X0.here hx rfl (hb hby at_166) k_) ?_
    obtain ⟨cl2, Ar2, q2, S2, N2, H2, G2⟩ := id VA
    have hin2 : ¬ ((2 : Int32) < 0 ∨ cl2.slots.size ≤ ((2 : Int32)).toNatClampNeg) := inb_of S2 ⟨by decide, by decide⟩
    obtain ⟨T3, h3, X3, e3, W3, st3⟩ := stC X0 hx hZ e0 Ar2 (j := (2 : Int32)) hin2 (g := (mkF m 168 #[iv shape, .val (.long pp), .second, iv pat, rv va, iv b_1, iv b_2, iv b_3, iv b_4, .unset, .unset] [(.int (58 : Int32)), (.int (2 : Int32)), (.ref va)])) rfl rfl (hb hby at_168)
    have CR4 : CHr Z consts_1 s.vm h0 vm0 h3 := CR0.trans (CHr.wr W3 (Safe.arv hZ.alike VA (by decide)) CR0.1)
    have V3 : Arv Z h3 va kc .char (6 : Int32) [(.int c0), (.int c1), (.int (nar .char (58 : Int32))), (.int c3), (.int c4), (.int c5)] (.int (0 : Int32)) := Arv.set Ar2 q2 S2 N2 H2 G2 (fits_nar_char _) W3 2 rfl (Nat.le_of_ble_eq_true rfl)
    have Vn3 : Arv Z h3 va kc .char (6 : Int32) [(.int c0), (.int c1), (.int (58 : Int32)), (.int c3), (.int c4), (.int c5)] (.int (0 : Int32)) := by simpa only [own_c58] using V3
    have Nx3 := Fr.snoc X3 N0 fva
    refine own_stW (T' := T3) (g' := (mkF m 169 #[iv shape, .val (.long pp), .second, iv pat, rv va, iv b_1, iv b_2, iv b_3, iv b_4, .unset, .unset] [])) st3 ?_
    clear hin2 G2 H2 N2 S2 q2 Ar2 cl2 st3
    have f5 : Old Z n0 h3 := O0.wr W3 fva
    exact seg_s169 h0 h3 n0 shape pp pat va kc b_1 b_2 b_3 b_4 c0 c1 (58 : Int32) c3 c4 c5 cz fm X3 hx hZs hZ hS0 (Nat.le_trans hk0 (Nat.le_of_eq (Wr.size W3).symm)) CR4 hw hby hml howns hown hnm hret hlk e3 Nx3 f5 hr0 hr1 (by decide) hr3 hr4 hr5 hn0 hn5 hb1 (Or.inr ⟨hb2.resolve_left hc1, rfl⟩) hb3 hn3 hb4 hn4 Vn3 fva SC hcz SF hfm
set_option maxRecDepth 65536 in
set_option maxHeartbeats 40000000 in
theorem seg_s147 {p : Program} {l : Launch} {e : Env} {s : State} {m : MethodId} {args : Array Value} {below : List Frame} {meth : Method} {c : Code} {T0 : State} {locs : List Loc} {Z : State} {a0 : Array Value} {vm0 : Vm} {k0 : Nat} (h0 : Heap) (hB : Heap) (n0 : Nat) (shape : Int32) (pp : Int64) (pat : Int32) (va : Addr) (kc : ClassId) (b_1 : Int32) (b_2 : Int32) (b_3 : Int32) (b_4 : Int32) (c0 : Int32) (c1 : Int32) (c2 : Int32) (c3 : Int32) (c4 : Int32) (c5 : Int32) (cz : Int32) (fm : Value)
    (X0 : Stand p l e room_1 (s.setVm vm0) m args below meth c T0 locs 3 294) (hx : p.tables.exec = Jvm.exec) (hZs : Z.Warmed39 s.vm) (hZ : Z.Warmed39 (s.setVm vm0).vm) (hS0 : s.Since vm0 k0) (hk0 : k0 ≤ hB.size) (CR0 : CHr Z consts_1 s.vm h0 vm0 hB) (hw : ∀ d ∈ tables_1, d.before a0 Z = true) (hby : c.code = code) (hml : c.maxLocals = 11) (howns : s.vm.findClass "com/example/sheafgate/sheafgate/store/SetSpecsLastPartPinLaw" = some m.cls) (hown : (s.setVm vm0).vm.findClass "com/example/sheafgate/sheafgate/store/SetSpecsLastPartPinLaw" = some m.cls) (hnm : meth.name = "law") (hret : meth.sig.returnType = some .boolean) (hlk : meth.locks = false) (e0 : T0.heap = hB) (N0 : Fr n0 locs) (O0 : Old Z n0 hB) (hr0 : ¬ c0 < 0 ∧ ¬ (255 : Int32) < c0) (hr1 : ¬ c1 < 0 ∧ ¬ (255 : Int32) < c1) (hr2 : ¬ c2 < 0 ∧ ¬ (255 : Int32) < c2) (hr3 : ¬ c3 < 0 ∧ ¬ (255 : Int32) < c3) (hr4 : ¬ c4 < 0 ∧ ¬ (255 : Int32) < c4) (hr5 : ¬ c5 < 0 ∧ ¬ (255 : Int32) < c5) (hn0 : ¬ (c0.toInt8.toInt32) = ((58 : Int32).toInt8.toInt32)) (hn5 : ¬ (c5.toInt8.toInt32) = ((58 : Int32).toInt8.toInt32)) (hb1 : b_1 = 0 ∨ b_1 = 1) (hn1 : ¬ (c1.toInt8.toInt32) = ((58 : Int32).toInt8.toInt32)) (hb2 : b_2 = 0 ∨ b_2 = 1) (hn2 : ¬ (c2.toInt8.toInt32) = ((58 : Int32).toInt8.toInt32)) (hb3 : b_3 = 0 ∨ b_3 = 1) (hn3 : ¬ (c3.toInt8.toInt32) = ((58 : Int32).toInt8.toInt32)) (hb4 : b_4 = 0 ∨ b_4 = 1) (hn4 : ¬ (c4.toInt8.toInt32) = ((58 : Int32).toInt8.toInt32)) (VA : Arv Z hB va kc .char (6 : Int32) [(.int c0), (.int c1), (.int c2), (.int c3), (.int c4), (.int c5)] (.int (0 : Int32))) (fva : n0 ≤ va) (SC : Sta Z Z.heap "java/lang/String" "COMPACT_STRINGS" "Z" (.int cz)) (hcz : ¬ cz = (0 : Int32)) (SF : Sta Z Z.heap "jdk/internal/util/Preconditions" "SIOOBE_FORMATTER" "Ljava/util/function/BiFunction;" fm) (hfm : fm.isRef = true) :
    own_W p e below s room_1.cells room_1.slots Z consts_1 h0 (own_L n0) T0 (mkF m 147 #[iv shape, .val (.long pp), .second, iv pat, rv va, iv b_1, iv b_2, iv b_3, iv b_4, .unset, .unset] []) := by
  have hEL := own_EW hw
  refine own_stW (T' := T0) (g' := (mkF m 149 #[iv shape, .val (.long pp), .second, iv pat, rv va, iv b_1, iv b_2, iv b_3, iv b_4, .unset, .unset] [(.int b_1)])) (fun _ k_ => XS.iload X0.here hx rfl (hb hby at_147) rfl  k_) ?_
  by_cases hc1 : b_1 = (0 : Int32)
  · refine own_stW (T' := T0) (g' := (mkF m 158 #[iv shape, .val (.long pp), .second, iv pat, rv va, iv b_1, iv b_2, iv b_3, iv b_4, .unset, .unset] [])) (fun _ k_ => XS.ifYes X0.here hx rfl (pc0 := 149) (pc' := 158) rfl (hb hby at_149) rfl ((if0 _ _).trans (teq hc1).1) (by decide) (by decide) k_) ?_
    exact seg_s158 h0 hB n0 shape pp pat va kc b_1 b_2 b_3 b_4 c0 c1 c2 c3 c4 c5 cz fm X0 hx hZs hZ hS0 hk0 CR0 hw hby hml howns hown hnm hret hlk e0 N0 O0 hr0 hr1 hr2 hr3 hr4 hr5 hn0 hn5 (Or.inl ⟨hc1, hn1⟩) hb2 hn2 hb3 hn3 hb4 hn4 VA fva SC hcz SF hfm
  · refine own_stW (T' := T0) (g' := (mkF m 152 #[iv shape, .val (.long pp), .second, iv pat, rv va, iv b_1, iv b_2, iv b_3, iv b_4, .unset, .unset] [])) (fun _ k_ => XS.ifNo X0.here hx rfl (hb hby at_149) rfl ((if0 _ _).trans (feq hc1).1) k_) ?_
    refine own_stW (T' := T0) (g' := (mkF m 154 #[iv shape, .val (.long pp), .second, iv pat, rv va, iv b_1, iv b_2, iv b_3, iv b_4, .unset, .unset] [(.ref va)])) (fun _ k_ => XS.aload X0.here hx rfl (hb hby at_152) rfl rfl  k_) ?_
    refine own_stW (T' := T0) (g' := (mkF m 155 #[iv shape, .val (.long pp), .second, iv pat, rv va, iv b_1, iv b_2, iv b_3, iv b_4, .unset, .unset] [(.int (1 : Int32)), (.ref va)])) (fun _ k_ => XS.iconst X0.here hx rfl (hb hby at_154) k_) ?_
    refine own_stW (T' := T0) (g' := (mkF m 157 #[iv shape, .val (.long pp), .second, iv pat, rv va, iv b_1, iv b_2, iv b_3, iv b_4, .unset, .unset] [(.int (58 : Int32)), (.int (1 : Int32)), (.ref va)])) (fun _ k_ => XS.bipush X0.here hx rfl (hb hby at_155) k_) ?_
    obtain ⟨cl2, Ar2, q2, S2, N2, H2, G2⟩ := id VA
    have hin2 : ¬ ((1 : Int32) < 0 ∨ cl2.slots.size ≤ ((1 : Int32)).toNatClampNeg) := inb_of S2 ⟨by decide, by decide⟩
    obtain ⟨T3, h3, X3, e3, W3, st3⟩ := stC X0 hx hZ e0 Ar2 (j := (1 : Int32)) hin2 (g := (mkF m 157 #[iv shape, .val (.long pp), .second, iv pat, rv va, iv b_1, iv b_2, iv b_3, iv b_4, .unset, .unset] [(.int (58 : Int32)), (.int (1 : Int32)), (.ref va)])) rfl rfl (hb hby at_157)
    have CR4 : CHr Z consts_1 s.vm h0 vm0 h3 := CR0.trans (CHr.wr W3 (Safe.arv hZ.alike VA (by decide)) CR0.1)
    have V3 : Arv Z h3 va kc .char (6 : Int32) [(.int c0), (.int (nar .char (58 : Int32))), (.int c2), (.int c3), (.int c4), (.int c5)] (.int (0 : Int32)) := Arv.set Ar2 q2 S2 N2 H2 G2 (fits_nar_char _) W3 1 rfl (Nat.le_of_ble_eq_true rfl)
    have Vn3 : Arv Z h3 va kc .char (6 : Int32) [(.int c0), (.int (58 : Int32)), (.int c2), (.int c3), (.int c4), (.int c5)] (.int (0 : Int32)) := by simpa only [own_c58] using V3
    have Nx3 := Fr.snoc X3 N0 fva
    refine own_stW (T' := T3) (g' := (mkF m 158 #[iv shape, .val (.long pp), .second, iv pat, rv va, iv b_1, iv b_2, iv b_3, iv b_4, .unset, .unset] [])) st3 ?_
    clear hin2 G2 H2 N2 S2 q2 Ar2 cl2 st3
    have f5 : Old Z n0 h3 := O0.wr W3 fva
    exact seg_s158 h0 h3 n0 shape pp pat va kc b_1 b_2 b_3 b_4 c0 (58 : Int32) c2 c3 c4 c5 cz fm X3 hx hZs hZ hS0 (Nat.le_trans hk0 (Nat.le_of_eq (Wr.size W3).symm)) CR4 hw hby hml howns hown hnm hret hlk e3 Nx3 f5 hr0 (by decide) hr2 hr3 hr4 hr5 hn0 hn5 (Or.inr ⟨hb1.resolve_left hc1, rfl⟩) hb2 hn2 hb3 hn3 hb4 hn4 Vn3 fva SC hcz SF hfm
set_option maxRecDepth 65536 in
set_option maxHeartbeats 40000000 in
theorem seg_s123 {p : Program} {l : Launch} {e : Env} {s : State} {m : MethodId} {args : Array Value} {below : List Frame} {meth : Method} {c : Code} {T0 : State} {locs : List Loc} {Z : State} {a0 : Array Value} {vm0 : Vm} {k0 : Nat} (h0 : Heap) (hB : Heap) (n0 : Nat) (shape : Int32) (pp : Int64) (pat : Int32) (va : Addr) (kc : ClassId) (b_1 : Int32) (b_2 : Int32) (b_3 : Int32) (c0 : Int32) (c1 : Int32) (c2 : Int32) (c3 : Int32) (c4 : Int32) (c5 : Int32) (cz : Int32) (fm : Value)
    (X0 : Stand p l e room_1 (s.setVm vm0) m args below meth c T0 locs 3 294) (hx : p.tables.exec = Jvm.exec) (hZs : Z.Warmed39 s.vm) (hZ : Z.Warmed39 (s.setVm vm0).vm) (hS0 : s.Since vm0 k0) (hk0 : k0 ≤ hB.size) (CR0 : CHr Z consts_1 s.vm h0 vm0 hB) (hw : ∀ d ∈ tables_1, d.before a0 Z = true) (hby : c.code = code) (hml : c.maxLocals = 11) (howns : s.vm.findClass "com/example/sheafgate/sheafgate/store/SetSpecsLastPartPinLaw" = some m.cls) (hown : (s.setVm vm0).vm.findClass "com/example/sheafgate/sheafgate/store/SetSpecsLastPartPinLaw" = some m.cls) (hnm : meth.name = "law") (hret : meth.sig.returnType = some .boolean) (hlk : meth.locks = false) (e0 : T0.heap = hB) (N0 : Fr n0 locs) (O0 : Old Z n0 hB) (hr0 : ¬ c0 < 0 ∧ ¬ (255 : Int32) < c0) (hr1 : ¬ c1 < 0 ∧ ¬ (255 : Int32) < c1) (hr2 : ¬ c2 < 0 ∧ ¬ (255 : Int32) < c2) (hr3 : ¬ c3 < 0 ∧ ¬ (255 : Int32) < c3) (hr4 : ¬ c4 < 0 ∧ ¬ (255 : Int32) < c4) (hr5 : ¬ c5 < 0 ∧ ¬ (255 : Int32) < c5) (hn0 : ¬ (c0.toInt8.toInt32) = ((58 : Int32).toInt8.toInt32)) (hn5 : ¬ (c5.toInt8.toInt32) = ((58 : Int32).toInt8.toInt32)) (hb1 : b_1 = 0 ∨ b_1 = 1) (hn1 : ¬ (c1.toInt8.toInt32) = ((58 : Int32).toInt8.toInt32)) (hb2 : b_2 = 0 ∨ b_2 = 1) (hn2 : ¬ (c2.toInt8.toInt32) = ((58 : Int32).toInt8.toInt32)) (hb3 : b_3 = 0 ∨ b_3 = 1) (hn3 : ¬ (c3.toInt8.toInt32) = ((58 : Int32).toInt8.toInt32)) (hn4 : ¬ (c4.toInt8.toInt32) = ((58 : Int32).toInt8.toInt32)) (VA : Arv Z hB va kc .char (6 : Int32) [(.int c0), (.int c1), (.int c2), (.int c3), (.int c4), (.int c5)] (.int (0 : Int32))) (fva : n0 ≤ va) (SC : Sta Z Z.heap "java/lang/String" "COMPACT_STRINGS" "Z" (.int cz)) (hcz : ¬ cz = (0 : Int32)) (SF : Sta Z Z.heap "jdk/internal/util/Preconditions" "SIOOBE_FORMATTER" "Ljava/util/function/BiFunction;" fm) (hfm : fm.isRef = true) :
    own_W p e below s room_1.cells room_1.slots Z consts_1 h0 (own_L n0) T0 (mkF m 123 #[iv shape, .val (.long pp), .second, iv pat, rv va, iv b_1, iv b_2, iv b_3, .unset, .unset, .unset] []) := by
  have hEL := own_EW hw
  refine own_stW (T' := T0) (g' := (mkF m 124 #[iv shape, .val (.long pp), .second, iv pat, rv va, iv b_1, iv b_2, iv b_3, .unset, .unset, .unset] [(.int pat)])) (fun _ k_ => XS.iloadN X0.here hx rfl (hb hby at_123) rfl  k_) ?_
  refine own_stW (T' := T0) (g' := (mkF m 125 #[iv shape, .val (.long pp), .second, iv pat, rv va, iv b_1, iv b_2, iv b_3, .unset, .unset, .unset] [(.int (4 : Int32)), (.int pat)])) (fun _ k_ => XS.iconst X0.here hx rfl (hb hby at_124) k_) ?_
  by_cases hc1 : pat = (4 : Int32)
  · refine own_stW (T' := T0) (g' := (mkF m 140 #[iv shape, .val (.long pp), .second, iv pat, rv va, iv b_1, iv b_2, iv b_3, .unset, .unset, .unset] [])) (fun _ k_ => XS.icmpYes X0.here hx rfl (pc0 := 125) (pc' := 140) rfl (hb hby at_125) rfl (teq hc1).1 (by decide) (by decide) k_) ?_
    refine own_stW (T' := T0) (g' := (mkF m 141 #[iv shape, .val (.long pp), .second, iv pat, rv va, iv b_1, iv b_2, iv b_3, .unset, .unset, .unset] [(.int (1 : Int32))])) (fun _ k_ => XS.iconst X0.here hx rfl (hb hby at_140) k_) ?_
    refine own_stW (T' := T0) (g' := (mkF m 145 #[iv shape, .val (.long pp), .second, iv pat, rv va, iv b_1, iv b_2, iv b_3, .unset, .unset, .unset] [(.int (1 : Int32))])) (fun _ k_ => XS.goto X0.here hx rfl (pc0 := 141) (pc' := 145) rfl (hb hby at_141) (by decide) (by decide) k_) ?_
    refine own_stW (T' := T0) (g' := (mkF m 147 #[iv shape, .val (.long pp), .second, iv pat, rv va, iv b_1, iv b_2, iv b_3, iv (1 : Int32), .unset, .unset] [])) (fun _ k_ => XS.istore X0.here hx rfl (hb hby at_145) rfl (l' := #[iv shape, .val (.long pp), .second, iv pat, rv va, iv b_1, iv b_2, iv b_3, iv (1 : Int32), .unset, .unset]) rfl k_) ?_
    exact seg_s147 h0 hB n0 shape pp pat va kc b_1 b_2 b_3 (1 : Int32) c0 c1 c2 c3 c4 c5 cz fm X0 hx hZs hZ hS0 hk0 CR0 hw hby hml howns hown hnm hret hlk e0 N0 O0 hr0 hr1 hr2 hr3 hr4 hr5 hn0 hn5 hb1 hn1 hb2 hn2 hb3 hn3 (Or.inr rfl) hn4 VA fva SC hcz SF hfm
  · refine own_stW (T' := T0) (g' := (mkF m 128 #[iv shape, .val (.long pp), .second, iv pat, rv va, iv b_1, iv b_2, iv b_3, .unset, .unset, .unset] [])) (fun _ k_ => XS.icmpNo X0.here hx rfl (hb hby at_125) rfl (feq hc1).1 k_) ?_
    refine own_stW (T' := T0) (g' := (mkF m 129 #[iv shape, .val (.long pp), .second, iv pat, rv va, iv b_1, iv b_2, iv b_3, .unset, .unset, .unset] [(.int pat)])) (fun _ k_ => XS.iloadN X0.here hx rfl (hb hby at_128) rfl  k_) ?_
    refine own_stW (T' := T0) (g' := (mkF m 131 #[iv shape, .val (.long pp), .second, iv pat, rv va, iv b_1, iv b_2, iv b_3, .unset, .unset, .unset] [(.int (6 : Int32)), (.int pat)])) (fun _ k_ => XS.bipush X0.here hx rfl (hb hby at_129) k_) ?_
    by_cases hc2 : pat = (6 : Int32)
    · refine own_stW (T' := T0) (g' := (mkF m 140 #[iv shape, .val (.long pp), .second, iv pat, rv va, iv b_1, iv b_2, iv b_3, .unset, .unset, .unset] [])) (fun _ k_ => XS.icmpYes X0.here hx rfl (pc0 := 131) (pc' := 140) rfl (hb hby at_131) rfl (teq hc2).1 (by decide) (by decide) k_) ?_
      refine own_stW (T' := T0) (g' := (mkF m 141 #[iv shape, .val (.long pp), .second, iv pat, rv va, iv b_1, iv b_2, iv b_3, .unset, .unset, .unset] [(.int (1 : Int32))])) (fun _ k_ => XS.iconst X0.here hx rfl (hb hby at_140) k_) ?_
      refine own_stW (T' := T0) (g' := (mkF m 145 #[iv shape, .val (.long pp), .second, iv pat, rv va, iv b_1, iv b_2, iv b_3, .unset, .unset, .unset] [(.int (1 : Int32))])) (fun _ k_ => XS.goto X0.here hx rfl (pc0 := 141) (pc' := 145) rfl (hb hby at_141) (by decide) (by decide) k_) ?_
      refine own_stW (T' := T0) (g' := (mkF m 147 #[iv shape, .val (.long pp), .second, iv pat, rv va, iv b_1, iv b_2, iv b_3, iv (1 : Int32), .unset, .unset] [])) (fun _ k_ => XS.istore X0.here hx rfl (hb hby at_145) rfl (l' := #[iv shape, .val (.long pp), .second, iv pat, rv va, iv b_1, iv b_2, iv b_3, iv (1 : Int32), .unset, .unset]) rfl k_) ?_
      exact seg_s147 h0 hB n0 shape pp pat va kc b_1 b_2 b_3 (1 : Int32) c0 c1 c2 c3 c4 c5 cz fm X0 hx hZs hZ hS0 hk0 CR0 hw hby hml howns hown hnm hret hlk e0 N0 O0 hr0 hr1 hr2 hr3 hr4 hr5 hn0 hn5 hb1 hn1 hb2 hn2 hb3 hn3 (Or.inr rfl) hn4 VA fva SC hcz SF hfm
    · refine own_stW (T' := T0) (g' := (mkF m 134 #[iv shape, .val (.long pp), .second, iv pat, rv va, iv b_1, iv b_2, iv b_3, .unset, .unset, .unset] [])) (fun _ k_ => XS.icmpNo X0.here hx rfl (hb hby at_131) rfl (feq hc2).1 k_) ?_
      refine own_stW (T' := T0) (g' := (mkF m 135 #[iv shape, .val (.long pp), .second, iv pat, rv va, iv b_1, iv b_2, iv b_3, .unset, .unset, .unset] [(.int pat)])) (fun _ k_ => XS.iloadN X0.here hx rfl (hb hby at_134) rfl  k_) ?_
      refine own_stW (T' := T0) (g' := (mkF m 137 #[iv shape, .val (.long pp), .second, iv pat, rv va, iv b_1, iv b_2, iv b_3, .unset, .unset, .unset] [(.int (7 : Int32)), (.int pat)])) (fun _ k_ => XS.bipush X0.here hx rfl (hb hby at_135) k_) ?_
      by_cases hc3 : pat = (7 : Int32)
      · refine own_stW (T' := T0) (g' := (mkF m 140 #[iv shape, .val (.long pp), .second, iv pat, rv va, iv b_1, iv b_2, iv b_3, .unset, .unset, .unset] [])) (fun _ k_ => XS.icmpNo X0.here hx rfl (hb hby at_137) rfl (teq hc3).2 k_) ?_
        refine own_stW (T' := T0) (g' := (mkF m 141 #[iv shape, .val (.long pp), .second, iv pat, rv va, iv b_1, iv b_2, iv b_3, .unset, .unset, .unset] [(.int (1 : Int32))])) (fun _ k_ => XS.iconst X0.here hx rfl (hb hby at_140) k_) ?_
        refine own_stW (T' := T0) (g' := (mkF m 145 #[iv shape, .val (.long pp), .second, iv pat, rv va, iv b_1, iv b_2, iv b_3, .unset, .unset, .unset] [(.int (1 : Int32))])) (fun _ k_ => XS.goto X0.here hx rfl (pc0 := 141) (pc' := 145) rfl (hb hby at_141) (by decide) (by decide) k_) ?_
        refine own_stW (T' := T0) (g' := (mkF m 147 #[iv shape, .val (.long pp), .second, iv pat, rv va, iv b_1, iv b_2, iv b_3, iv (1 : Int32), .unset, .unset] [])) (fun _ k_ => XS.istore X0.here hx rfl (hb hby at_145) rfl (l' := #[iv shape, .val (.long pp), .second, iv pat, rv va, iv b_1, iv b_2, iv b_3, iv (1 : Int32), .unset, .unset]) rfl k_) ?_
        exact seg_s147 h0 hB n0 shape pp pat va kc b_1 b_2 b_3 (1 : Int32) c0 c1 c2 c3 c4 c5 cz fm X0 hx hZs hZ hS0 hk0 CR0 hw hby hml howns hown hnm hret hlk e0 N0 O0 hr0 hr1 hr2 hr3 hr4 hr5 hn0 hn5 hb1 hn1 hb2 hn2 hb3 hn3 (Or.inr rfl) hn4 VA fva SC hcz SF hfm
      · refine own_stW (T' := T0) (g' := (mkF m 144 #[iv shape, .val (.long pp), .second, iv pat, rv va, iv b_1, iv b_2, iv b_3, .unset, .unset, .unset] [])) (fun _ k_ => XS.icmpYes X0.here hx rfl (pc0 := 137) (pc' := 144) rfl (hb hby at_137) rfl (feq hc3).2 (by decide) (by decide) k_) ?_
        refine own_stW (T' := T0) (g' := (mkF m 145 #[iv shape, .val (.long pp), .second, iv pat, rv va, iv b_1, iv b_2, iv b_3, .unset, .unset, .unset] [(.int (0 : Int32))])) (fun _ k_ => XS.iconst X0.here hx rfl (hb hby at_144) k_) ?_
        refine own_stW (T' := T0) (g' := (mkF m 147 #[iv shape, .val (.long pp), .second, iv pat, rv va, iv b_1, iv b_2, iv b_3, iv (0 : Int32), .unset, .unset] [])) (fun _ k_ => XS.istore X0.here hx rfl (hb hby at_145) rfl (l' := #[iv shape, .val (.long pp), .second, iv pat, rv va, iv b_1, iv b_2, iv b_3, iv (0 : Int32), .unset, .unset]) rfl k_) ?_
        exact seg_s147 h0 hB n0 shape pp pat va kc b_1 b_2 b_3 (0 : Int32) c0 c1 c2 c3 c4 c5 cz fm X0 hx hZs hZ hS0 hk0 CR0 hw hby hml howns hown hnm hret hlk e0 N0 O0 hr0 hr1 hr2 hr3 hr4 hr5 hn0 hn5 hb1 hn1 hb2 hn2 hb3 hn3 (Or.inl rfl) hn4 VA fva SC hcz SF hfm
set_option maxRecDepth 65536 in
set_option maxHeartbeats 40000000 in
theorem seg_s106 {p : Program} {l : Launch} {e : Env} {s : State} {m : MethodId} {args : Array Value} {below : List Frame} {meth : Method} {c : Code} {T0 : State} {locs : List Loc} {Z : State} {a0 : Array Value} {vm0 : Vm} {k0 : Nat} (h0 : Heap) (hB : Heap) (n0 : Nat) (shape : Int32) (pp : Int64) (pat : Int32) (va : Addr) (kc : ClassId) (b_1 : Int32) (b_2 : Int32) (c0 : Int32) (c1 : Int32) (c2 : Int32) (c3 : Int32) (c4 : Int32) (c5 : Int32) (cz : Int32) (fm : Value)
    (X0 : Stand p l e room_1 (s.setVm vm0) m args below meth c T0 locs 3 294) (hx : p.tables.exec = Jvm.exec) (hZs : Z.Warmed39 s.vm) (hZ : Z.Warmed39 (s.setVm vm0).vm) (hS0 : s.Since vm0 k0) (hk0 : k0 ≤ hB.size) (CR0 : CHr Z consts_1 s.vm h0 vm0 hB) (hw : ∀ d ∈ tables_1, d.before a0 Z = true) (hby : c.code = code) (hml : c.maxLocals = 11) (howns : s.vm.findClass "com/example/sheafgate/sheafgate/store/SetSpecsLastPartPinLaw" = some m.cls) (hown : (s.setVm vm0).vm.findClass "com/example/sheafgate/sheafgate/store/SetSpecsLastPartPinLaw" = some m.cls) (hnm : meth.name = "law") (hret : meth.sig.returnType = some .boolean) (hlk : meth.locks = false) (e0 : T0.heap = hB) (N0 : Fr n0 locs) (O0 : Old Z n0 hB) (hr0 : ¬ c0 < 0 ∧ ¬ (255 : Int32) < c0) (hr1 : ¬ c1 < 0 ∧ ¬ (255 : Int32) < c1) (hr2 : ¬ c2 < 0 ∧ ¬ (255 : Int32) < c2) (hr3 : ¬ c3 < 0 ∧ ¬ (255 : Int32) < c3) (hr4 : ¬ c4 < 0 ∧ ¬ (255 : Int32) < c4) (hr5 : ¬ c5 < 0 ∧ ¬ (255 : Int32) < c5) (hn0 : ¬ (c0.toInt8.toInt32) = ((58 : Int32).toInt8.toInt32)) (hn5 : ¬ (c5.toInt8.toInt32) = ((58 : Int32).toInt8.toInt32)) (hb1 : b_1 = 0 ∨ b_1 = 1) (hn1 : ¬ (c1.toInt8.toInt32) = ((58 : Int32).toInt8.toInt32)) (hb2 : b_2 = 0 ∨ b_2 = 1) (hn2 : ¬ (c2.toInt8.toInt32) = ((58 : Int32).toInt8.toInt32)) (hn3 : ¬ (c3.toInt8.toInt32) = ((58 : Int32).toInt8.toInt32)) (hn4 : ¬ (c4.toInt8.toInt32) = ((58 : Int32).toInt8.toInt32)) (VA : Arv Z hB va kc .char (6 : Int32) [(.int c0), (.int c1), (.int c2), (.int c3), (.int c4), (.int c5)] (.int (0 : Int32))) (fva : n0 ≤ va) (SC : Sta Z Z.heap "java/lang/String" "COMPACT_STRINGS" "Z" (.int cz)) (hcz : ¬ cz = (0 : Int32)) (SF : Sta Z Z.heap "jdk/internal/util/Preconditions" "SIOOBE_FORMATTER" "Ljava/util/function/BiFunction;" fm) (hfm : fm.isRef = true) :
    own_W p e below s room_1.cells room_1.slots Z consts_1 h0 (own_L n0) T0 (mkF m 106 #[iv shape, .val (.long pp), .second, iv pat, rv va, iv b_1, iv b_2, .unset, .unset, .unset, .unset] []) := by
  have hEL := own_EW hw
  refine own_stW (T' := T0) (g' := (mkF m 107 #[iv shape, .val (.long pp), .second, iv pat, rv va, iv b_1, iv b_2, .unset, .unset, .unset, .unset] [(.int pat)])) (fun _ k_ => XS.iloadN X0.here hx rfl (hb hby at_106) rfl  k_) ?_
  refine own_stW (T' := T0) (g' := (mkF m 108 #[iv shape, .val (.long pp), .second, iv pat, rv va, iv b_1, iv b_2, .unset, .unset, .unset, .unset] [(.int (3 : Int32)), (.int pat)])) (fun _ k_ => XS.iconst X0.here hx rfl (hb hby at_107) k_) ?_
  by_cases hc1 : pat = (3 : Int32)
  · refine own_stW (T' := T0) (g' := (mkF m 116 #[iv shape, .val (.long pp), .second, iv pat, rv va, iv b_1, iv b_2, .unset, .unset, .unset, .unset] [])) (fun _ k_ => XS.icmpYes X0.here hx rfl (pc0 := 108) (pc' := 116) rfl (hb hby at_108) rfl (teq hc1).1 (by decide) (by decide) k_) ?_
    refine own_stW (T' := T0) (g' := (mkF m 117 #[iv shape, .val (.long pp), .second, iv pat, rv va, iv b_1, iv b_2, .unset, .unset, .unset, .unset] [(.int (1 : Int32))])) (fun _ k_ => XS.iconst X0.here hx rfl (hb hby at_116) k_) ?_
    refine own_stW (T' := T0) (g' := (mkF m 121 #[iv shape, .val (.long pp), .second, iv pat, rv va, iv b_1, iv b_2, .unset, .unset, .unset, .unset] [(.int (1 : Int32))])) (fun _ k_ => XS.goto X0.here hx rfl (pc0 := 117) (pc' := 121) rfl (hb hby at_117) (by decide) (by decide) k_) ?_
    refine own_stW (T' := T0) (g' := (mkF m 123 #[iv shape, .val (.long pp), .second, iv pat, rv va, iv b_1, iv b_2, iv (1 : Int32), .unset, .unset, .unset] [])) (fun _ k_ => XS.istore X0.here hx rfl (hb hby at_121) rfl (l' := #[iv shape, .val (.long pp), .second, iv pat, rv va, iv b_1, iv b_2, iv (1 : Int32), .unset, .unset, .unset]) rfl k_) ?_
    exact seg_s123 h0 hB n0 shape pp pat va kc b_1 b_2 (1 : Int32) c0 c1 c2 c3 c4 c5 cz fm X0 hx hZs hZ hS0 hk0 CR0 hw hby hml howns hown hnm hret hlk e0 N0 O0 hr0 hr1 hr2 hr3 hr4 hr5 hn0 hn5 hb1 hn1 hb2 hn2 (Or.inr rfl) hn3 hn4 VA fva SC hcz SF hfm
  · refine own_stW (T' := T0) (g' := (mkF m 111 #[iv shape, .val (.long pp), .second, iv pat, rv va, iv b_1, iv b_2, .unset, .unset, .unset, .unset] [])) (fun _ k_ => XS.icmpNo X0.here hx rfl (hb hby at_108) rfl (feq hc1).1 k_) ?_
    refine own_stW (T' := T0) (g' := (mkF m 112 #[iv shape, .val (.long pp), .second, iv pat, rv va, iv b_1, iv b_2, .unset, .unset, .unset, .unset] [(.int pat)])) (fun _ k_ => XS.iloadN X0.here hx rfl (hb hby at_111) rfl  k_) ?_
    refine own_stW (T' := T0) (g' := (mkF m 113 #[iv shape, .val (.long pp), .second, iv pat, rv va, iv b_1, iv b_2, .unset, .unset, .unset, .unset] [(.int (5 : Int32)), (.int pat)])) (fun _ k_ => XS.iconst X0.here hx rfl (hb hby at_112) k_) ?_
    by_cases hc2 : pat = (5 : Int32)
    · refine own_stW (T' := T0) (g' := (mkF m 116 #[iv shape, .val (.long pp), .second, iv pat, rv va, iv b_1, iv b_2, .unset, .unset, .unset, .unset] [])) (fun _ k_ => XS.icmpNo X0.here hx rfl (hb hby at_113) rfl (teq hc2).2 k_) ?_
      refine own_stW (T' := T0) (g' := (mkF m 117 #[iv shape, .val (.long pp), .second, iv pat, rv va, iv b_1, iv b_2, .unset, .unset, .unset, .unset] [(.int (1 : Int32))])) (fun _ k_ => XS.iconst X0.here hx rfl (hb hby at_116) k_) ?_
      refine own_stW (T' := T0) (g' := (mkF m 121 #[iv shape, .val (.long pp), .second, iv pat, rv va, iv b_1, iv b_2, .unset, .unset, .unset, .unset] [(.int (1 : Int32))])) (fun _ k_ => XS.goto X0.here hx rfl (pc0 := 117) (pc' := 121) rfl (hb hby at_117) (by decide) (by decide) k_) ?_
      refine own_stW (T' := T0) (g' := (mkF m 123 #[iv shape, .val (.long pp), .second, iv pat, rv va, iv b_1, iv b_2, iv (1 : Int32), .unset, .unset, .unset] [])) (fun _ k_ => XS.istore X0.here hx rfl (hb hby at_121) rfl (l' := #[iv shape, .val (.long pp), .second, iv pat, rv va, iv b_1, iv b_2, iv (1 : Int32), .unset, .unset, .unset]) rfl k_) ?_
      exact seg_s123 h0 hB n0 shape pp pat va kc b_1 b_2 (1 : Int32) c0 c1 c2 c3 c4 c5 cz fm X0 hx hZs hZ hS0 hk0 CR0 hw hby hml howns hown hnm hret hlk e0 N0 O0 hr0 hr1 hr2 hr3 hr4 hr5 hn0 hn5 hb1 hn1 hb2 hn2 (Or.inr rfl) hn3 hn4 VA fva SC hcz SF hfm
    · refine own_stW (T' := T0) (g' := (mkF m 120 #[iv shape, .val (.long pp), .second, iv pat, rv va, iv b_1, iv b_2, .unset, .unset, .unset, .unset] [])) (fun _ k_ => XS.icmpYes X0.here hx rfl (pc0 := 113) (pc' := 120) rfl (hb hby at_113) rfl (feq hc2).2 (by decide) (by decide) k_) ?_
      refine own_stW (T' := T0) (g' := (mkF m 121 #[iv shape, .val (.long pp), .second, iv pat, rv va, iv b_1, iv b_2, .unset, .unset, .unset, .unset] [(.int (0 : Int32))])) (fun _ k_ => XS.iconst X0.here hx rfl (hb hby at_120) k_) ?_
      refine own_stW (T' := T0) (g' := (mkF m 123 #[iv shape, .val (.long pp), .second, iv pat, rv va, iv b_1, iv b_2, iv (0 : Int32), .unset, .unset, .unset] [])) (fun _ k_ => XS.istore X0.here hx rfl (hb hby at_121) rfl (l' := #[iv shape, .val (.long pp), .second, iv pat, rv va, iv b_1, iv b_2, iv (0 : Int32), .unset, .unset, .unset]) rfl k_) ?_
      exact seg_s123 h0 hB n0 shape pp pat va kc b_1 b_2 (0 : Int32) c0 c1 c2 c3 c4 c5 cz fm X0 hx hZs hZ hS0 hk0 CR0 hw hby hml howns hown hnm hret hlk e0 N0 O0 hr0 hr1 hr2 hr3 hr4 hr5 hn0 hn5 hb1 hn1 hb2 hn2 (Or.inl rfl) hn3 hn4 VA fva SC hcz SF hfm
set_option maxRecDepth 65536 in
set_option maxHeartbeats 40000000 in
theorem seg_s88 {p : Program} {l : Launch} {e : Env} {s : State} {m : MethodId} {args : Array Value} {below : List Frame} {meth : Method} {c : Code} {T0 : State} {locs : List Loc} {Z : State} {a0 : Array Value} {vm0 : Vm} {k0 : Nat} (h0 : Heap) (hB : Heap) (n0 : Nat) (shape : Int32) (pp : Int64) (pat : Int32) (va : Addr) (kc : ClassId) (b_1 : Int32) (c0 : Int32) (c1 : Int32) (c2 : Int32) (c3 : Int32) (c4 : Int32) (c5 : Int32) (cz : Int32) (fm : Value)
    (X0 : Stand p l e room_1 (s.setVm vm0) m args below meth c T0 locs 3 294) (hx : p.tables.exec = Jvm.exec) (hZs : Z.Warmed39 s.vm) (hZ : Z.Warmed39 (s.setVm vm0).vm) (hS0 : s.Since vm0 k0) (hk0 : k0 ≤ hB.size) (CR0 : CHr Z consts_1 s.vm h0 vm0 hB) (hw : ∀ d ∈ tables_1, d.before a0 Z = true) (hby : c.code = code) (hml : c.maxLocals = 11) (howns : s.vm.findClass "com/example/sheafgate/sheafgate/store/SetSpecsLastPartPinLaw" = some m.cls) (hown : (s.setVm vm0).vm.findClass "com/example/sheafgate/sheafgate/store/SetSpecsLastPartPinLaw" = some m.cls) (hnm : meth.name = "law") (hret : meth.sig.returnType = some .boolean) (hlk : meth.locks = false) (e0 : T0.heap = hB) (N0 : Fr n0 locs) (O0 : Old Z n0 hB) (hr0 : ¬ c0 < 0 ∧ ¬ (255 : Int32) < c0) (hr1 : ¬ c1 < 0 ∧ ¬ (255 : Int32) < c1) (hr2 : ¬ c2 < 0 ∧ ¬ (255 : Int32) < c2) (hr3 : ¬ c3 < 0 ∧ ¬ (255 : Int32) < c3) (hr4 : ¬ c4 < 0 ∧ ¬ (255 : Int32) < c4) (hr5 : ¬ c5 < 0 ∧ ¬ (255 : Int32) < c5) (hn0 : ¬ (c0.toInt8.toInt32) = ((58 : Int32).toInt8.toInt32)) (hn5 : ¬ (c5.toInt8.toInt32) = ((58 : Int32).toInt8.toInt32)) (hb1 : b_1 = 0 ∨ b_1 = 1) (hn1 : ¬ (c1.toInt8.toInt32) = ((58 : Int32).toInt8.toInt32)) (hn2 : ¬ (c2.toInt8.toInt32) = ((58 : Int32).toInt8.toInt32)) (hn3 : ¬ (c3.toInt8.toInt32) = ((58 : Int32).toInt8.toInt32)) (hn4 : ¬ (c4.toInt8.toInt32) = ((58 : Int32).toInt8.toInt32)) (VA : Arv Z hB va kc .char (6 : Int32) [(.int c0), (.int c1), (.int c2), (.int c3), (.int c4), (.int c5)] (.int (0 : Int32))) (fva : n0 ≤ va) (SC : Sta Z Z.heap "java/lang/String" "COMPACT_STRINGS" "Z" (.int cz)) (hcz : ¬ cz = (0 : Int32)) (SF : Sta Z Z.heap "jdk/internal/util/Preconditions" "SIOOBE_FORMATTER" "Ljava/util/function/BiFunction;" fm) (hfm : fm.isRef = true) :
    own_W p e below s room_1.cells room_1.slots Z consts_1 h0 (own_L n0) T0 (mkF m 88 #[iv shape, .val (.long pp), .second, iv pat, rv va, iv b_1, .unset, .unset, .unset, .unset, .unset] []) := by
  have hEL := own_EW hw
  refine own_stW (T' := T0) (g' := (mkF m 89 #[iv shape, .val (.long pp), .second, iv pat, rv va, iv b_1, .unset, .unset, .unset, .unset, .unset] [(.int pat)])) (fun _ k_ => XS.iloadN X0.here hx rfl (hb hby at_88) rfl  k_) ?_
  refine own_stW (T' := T0) (g' := (mkF m 90 #[iv shape, .val (.long pp), .second, iv pat, rv va, iv b_1, .unset, .unset, .unset, .unset, .unset] [(.int (2 : Int32)), (.int pat)])) (fun _ k_ => XS.iconst X0.here hx rfl (hb hby at_89) k_) ?_
  by_cases hc1 : pat = (2 : Int32)
  · refine own_stW (T' := T0) (g' := (mkF m 99 #[iv shape, .val (.long pp), .second, iv pat, rv va, iv b_1, .unset, .unset, .unset, .unset, .unset] [])) (fun _ k_ => XS.icmpYes X0.here hx rfl (pc0 := 90) (pc' := 99) rfl (hb hby at_90) rfl (teq hc1).1 (by decide) (by decide) k_) ?_
    refine own_stW (T' := T0) (g' := (mkF m 100 #[iv shape, .val (.long pp), .second, iv pat, rv va, iv b_1, .unset, .unset, .unset, .unset, .unset] [(.int (1 : Int32))])) (fun _ k_ => XS.iconst X0.here hx rfl (hb hby at_99) k_) ?_
    refine own_stW (T' := T0) (g' := (mkF m 104 #[iv shape, .val (.long pp), .second, iv pat, rv va, iv b_1, .unset, .unset, .unset, .unset, .unset] [(.int (1 : Int32))])) (fun _ k_ => XS.goto X0.here hx rfl (pc0 := 100) (pc' := 104) rfl (hb hby at_100) (by decide) (by decide) k_) ?_
    refine own_stW (T' := T0) (g' := (mkF m 106 #[iv shape, .val (.long pp), .second, iv pat, rv va, iv b_1, iv (1 : Int32), .unset, .unset, .unset, .unset] [])) (fun _ k_ => XS.istore X0.here hx rfl (hb hby at_104) rfl (l' := #[iv shape, .val (.long pp), .second, iv pat, rv va, iv b_1, iv (1 : Int32), .unset, .unset, .unset, .unset]) rfl k_) ?_
    exact seg_s106 h0 hB n0 shape pp pat va kc b_1 (1 : Int32) c0 c1 c2 c3 c4 c5 cz fm X0 hx hZs hZ hS0 hk0 CR0 hw hby hml howns hown hnm hret hlk e0 N0 O0 hr0 hr1 hr2 hr3 hr4 hr5 hn0 hn5 hb1 hn1 (Or.inr rfl) hn2 hn3 hn4 VA fva SC hcz SF hfm
  · refine own_stW (T' := T0) (g' := (mkF m 93 #[iv shape, .val (.long pp), .second, iv pat, rv va, iv b_1, .unset, .unset, .unset, .unset, .unset] [])) (fun _ k_ => XS.icmpNo X0.here hx rfl (hb hby at_90) rfl (feq hc1).1 k_) ?_
    refine own_stW (T' := T0) (g' := (mkF m 94 #[iv shape, .val (.long pp), .second, iv pat, rv va, iv b_1, .unset, .unset, .unset, .unset, .unset] [(.int pat)])) (fun _ k_ => XS.iloadN X0.here hx rfl (hb hby at_93) rfl  k_) ?_
    refine own_stW (T' := T0) (g' := (mkF m 96 #[iv shape, .val (.long pp), .second, iv pat, rv va, iv b_1, .unset, .unset, .unset, .unset, .unset] [(.int (7 : Int32)), (.int pat)])) (fun _ k_ => XS.bipush X0.here hx rfl (hb hby at_94) k_) ?_
    by_cases hc2 : pat = (7 : Int32)
    · refine own_stW (T' := T0) (g' := (mkF m 99 #[iv shape, .val (.long pp), .second, iv pat, rv va, iv b_1, .unset, .unset, .unset, .unset, .unset] [])) (fun _ k_ => XS.icmpNo X0.here hx rfl (hb hby at_96) rfl (teq hc2).2 k_) ?_
      refine own_stW (T' := T0) (g' := (mkF m 100 #[iv shape, .val (.long pp), .second, iv pat, rv va, iv b_1, .unset, .unset, .unset, .unset, .unset] [(.int (1 : Int32))])) (fun _ k_ => XS.iconst X0.here hx rfl (hb hby at_99) k_) ?_
      refine own_stW (T' := T0) (g' := (mkF m 104 #[iv shape, .val (.long pp), .second, iv pat, rv va, iv b_1, .unset, .unset, .unset, .unset, .unset] [(.int (1 : Int32))])) (fun _ k_ => XS.goto X0.here hx rfl (pc0 := 100) (pc' := 104) rfl (hb hby at_100) (by decide) (by decide) k_) ?_
      refine own_stW (T' := T0) (g' := (mkF m 106 #[iv shape, .val (.long pp), .second, iv pat, rv va, iv b_1, iv (1 : Int32), .unset, .unset, .unset, .unset] [])) (fun _ k_ => XS.istore X0.here hx rfl (hb hby at_104) rfl (l' := #[iv shape, .val (.long pp), .second, iv pat, rv va, iv b_1, iv (1 : Int32), .unset, .unset, .unset, .unset]) rfl k_) ?_
      exact seg_s106 h0 hB n0 shape pp pat va kc b_1 (1 : Int32) c0 c1 c2 c3 c4 c5 cz fm X0 hx hZs hZ hS0 hk0 CR0 hw hby hml howns hown hnm hret hlk e0 N0 O0 hr0 hr1 hr2 hr3 hr4 hr5 hn0 hn5 hb1 hn1 (Or.inr rfl) hn2 hn3 hn4 VA fva SC hcz SF hfm
    · refine own_stW (T' := T0) (g' := (mkF m 103 #[iv shape, .val (.long pp), .second, iv pat, rv va, iv b_1, .unset, .unset, .unset, .unset, .unset] [])) (fun _ k_ => XS.icmpYes X0.here hx rfl (pc0 := 96) (pc' := 103) rfl (hb hby at_96) rfl (feq hc2).2 (by decide) (by decide) k_) ?_
      refine own_stW (T' := T0) (g' := (mkF m 104 #[iv shape, .val (.long pp), .second, iv pat, rv va, iv b_1, .unset, .unset, .unset, .unset, .unset] [(.int (0 : Int32))])) (fun _ k_ => XS.iconst X0.here hx rfl (hb hby at_103) k_) ?_
      refine own_stW (T' := T0) (g' := (mkF m 106 #[iv shape, .val (.long pp), .second, iv pat, rv va, iv b_1, iv (0 : Int32), .unset, .unset, .unset, .unset] [])) (fun _ k_ => XS.istore X0.here hx rfl (hb hby at_104) rfl (l' := #[iv shape, .val (.long pp), .second, iv pat, rv va, iv b_1, iv (0 : Int32), .unset, .unset, .unset, .unset]) rfl k_) ?_
      exact seg_s106 h0 hB n0 shape pp pat va kc b_1 (0 : Int32) c0 c1 c2 c3 c4 c5 cz fm X0 hx hZs hZ hS0 hk0 CR0 hw hby hml howns hown hnm hret hlk e0 N0 O0 hr0 hr1 hr2 hr3 hr4 hr5 hn0 hn5 hb1 hn1 (Or.inl rfl) hn2 hn3 hn4 VA fva SC hcz SF hfm
set_option maxRecDepth 65536 in
set_option maxHeartbeats 40000000 in
theorem seg_s65 {p : Program} {l : Launch} {e : Env} {s : State} {m : MethodId} {args : Array Value} {below : List Frame} {meth : Method} {c : Code} {T0 : State} {locs : List Loc} {Z : State} {a0 : Array Value} {vm0 : Vm} {k0 : Nat} (h0 : Heap) (hB : Heap) (n0 : Nat) (shape : Int32) (pp : Int64) (pat : Int32) (va : Addr) (kc : ClassId) (c0 : Int32) (c1 : Int32) (c2 : Int32) (c3 : Int32) (c4 : Int32) (c5 : Int32) (cz : Int32) (fm : Value)
    (X0 : Stand p l e room_1 (s.setVm vm0) m args below meth c T0 locs 3 294) (hx : p.tables.exec = Jvm.exec) (hZs : Z.Warmed39 s.vm) (hZ : Z.Warmed39 (s.setVm vm0).vm) (hS0 : s.Since vm0 k0) (hk0 : k0 ≤ hB.size) (CR0 : CHr Z consts_1 s.vm h0 vm0 hB) (hw : ∀ d ∈ tables_1, d.before a0 Z = true) (hby : c.code = code) (hml : c.maxLocals = 11) (howns : s.vm.findClass "com/example/sheafgate/sheafgate/store/SetSpecsLastPartPinLaw" = some m.cls) (hown : (s.setVm vm0).vm.findClass "com/example/sheafgate/sheafgate/store/SetSpecsLastPartPinLaw" = some m.cls) (hnm : meth.name = "law") (hret : meth.sig.returnType = some .boolean) (hlk : meth.locks = false) (e0 : T0.heap = hB) (N0 : Fr n0 locs) (O0 : Old Z n0 hB) (hr0 : ¬ c0 < 0 ∧ ¬ (255 : Int32) < c0) (hr1 : ¬ c1 < 0 ∧ ¬ (255 : Int32) < c1) (hr2 : ¬ c2 < 0 ∧ ¬ (255 : Int32) < c2) (hr3 : ¬ c3 < 0 ∧ ¬ (255 : Int32) < c3) (hr4 : ¬ c4 < 0 ∧ ¬ (255 : Int32) < c4) (hr5 : ¬ c5 < 0 ∧ ¬ (255 : Int32) < c5) (hn0 : ¬ (c0.toInt8.toInt32) = ((58 : Int32).toInt8.toInt32)) (hn5 : ¬ (c5.toInt8.toInt32) = ((58 : Int32).toInt8.toInt32)) (hn1 : ¬ (c1.toInt8.toInt32) = ((58 : Int32).toInt8.toInt32)) (hn2 : ¬ (c2.toInt8.toInt32) = ((58 : Int32).toInt8.toInt32)) (hn3 : ¬ (c3.toInt8.toInt32) = ((58 : Int32).toInt8.toInt32)) (hn4 : ¬ (c4.toInt8.toInt32) = ((58 : Int32).toInt8.toInt32)) (VA : Arv Z hB va kc .char (6 : Int32) [(.int c0), (.int c1), (.int c2), (.int c3), (.int c4), (.int c5)] (.int (0 : Int32))) (fva : n0 ≤ va) (SC : Sta Z Z.heap "java/lang/String" "COMPACT_STRINGS" "Z" (.int cz)) (hcz : ¬ cz = (0 : Int32)) (SF : Sta Z Z.heap "jdk/internal/util/Preconditions" "SIOOBE_FORMATTER" "Ljava/util/function/BiFunction;" fm) (hfm : fm.isRef = true) :
    own_W p e below s room_1.cells room_1.slots Z consts_1 h0 (own_L n0) T0 (mkF m 65 #[iv shape, .val (.long pp), .second, iv pat, rv va, .unset, .unset, .unset, .unset, .unset, .unset] []) := by
  have hEL := own_EW hw
  refine own_stW (T' := T0) (g' := (mkF m 66 #[iv shape, .val (.long pp), .second, iv pat, rv va, .unset, .unset, .unset, .unset, .unset, .unset] [(.int pat)])) (fun _ k_ => XS.iloadN X0.here hx rfl (hb hby at_65) rfl  k_) ?_
  refine own_stW (T' := T0) (g' := (mkF m 67 #[iv shape, .val (.long pp), .second, iv pat, rv va, .unset, .unset, .unset, .unset, .unset, .unset] [(.int (1 : Int32)), (.int pat)])) (fun _ k_ => XS.iconst X0.here hx rfl (hb hby at_66) k_) ?_
  by_cases hc1 : pat = (1 : Int32)
  · refine own_stW (T' := T0) (g' := (mkF m 81 #[iv shape, .val (.long pp), .second, iv pat, rv va, .unset, .unset, .unset, .unset, .unset, .unset] [])) (fun _ k_ => XS.icmpYes X0.here hx rfl (pc0 := 67) (pc' := 81) rfl (hb hby at_67) rfl (teq hc1).1 (by decide) (by decide) k_) ?_
    refine own_stW (T' := T0) (g' := (mkF m 82 #[iv shape, .val (.long pp), .second, iv pat, rv va, .unset, .unset, .unset, .unset, .unset, .unset] [(.int (1 : Int32))])) (fun _ k_ => XS.iconst X0.here hx rfl (hb hby at_81) k_) ?_
    refine own_stW (T' := T0) (g' := (mkF m 86 #[iv shape, .val (.long pp), .second, iv pat, rv va, .unset, .unset, .unset, .unset, .unset, .unset] [(.int (1 : Int32))])) (fun _ k_ => XS.goto X0.here hx rfl (pc0 := 82) (pc' := 86) rfl (hb hby at_82) (by decide) (by decide) k_) ?_
    refine own_stW (T' := T0) (g' := (mkF m 88 #[iv shape, .val (.long pp), .second, iv pat, rv va, iv (1 : Int32), .unset, .unset, .unset, .unset, .unset] [])) (fun _ k_ => XS.istore X0.here hx rfl (hb hby at_86) rfl (l' := #[iv shape, .val (.long pp), .second, iv pat, rv va, iv (1 : Int32), .unset, .unset, .unset, .unset, .unset]) rfl k_) ?_
    exact seg_s88 h0 hB n0 shape pp pat va kc (1 : Int32) c0 c1 c2 c3 c4 c5 cz fm X0 hx hZs hZ hS0 hk0 CR0 hw hby hml howns hown hnm hret hlk e0 N0 O0 hr0 hr1 hr2 hr3 hr4 hr5 hn0 hn5 (Or.inr rfl) hn1 hn2 hn3 hn4 VA fva SC hcz SF hfm
  · refine own_stW (T' := T0) (g' := (mkF m 70 #[iv shape, .val (.long pp), .second, iv pat, rv va, .unset, .unset, .unset, .unset, .unset, .unset] [])) (fun _ k_ => XS.icmpNo X0.here hx rfl (hb hby at_67) rfl (feq hc1).1 k_) ?_
    refine own_stW (T' := T0) (g' := (mkF m 71 #[iv shape, .val (.long pp), .second, iv pat, rv va, .unset, .unset, .unset, .unset, .unset, .unset] [(.int pat)])) (fun _ k_ => XS.iloadN X0.here hx rfl (hb hby at_70) rfl  k_) ?_
    refine own_stW (T' := T0) (g' := (mkF m 72 #[iv shape, .val (.long pp), .second, iv pat, rv va, .unset, .unset, .unset, .unset, .unset, .unset] [(.int (5 : Int32)), (.int pat)])) (fun _ k_ => XS.iconst X0.here hx rfl (hb hby at_71) k_) ?_
    by_cases hc2 : pat = (5 : Int32)
    · refine own_stW (T' := T0) (g' := (mkF m 81 #[iv shape, .val (.long pp), .second, iv pat, rv va, .unset, .unset, .unset, .unset, .unset, .unset] [])) (fun _ k_ => XS.icmpYes X0.here hx rfl (pc0 := 72) (pc' := 81) rfl (hb hby at_72) rfl (teq hc2).1 (by decide) (by decide) k_) ?_
      refine own_stW (T' := T0) (g' := (mkF m 82 #[iv shape, .val (.long pp), .second, iv pat, rv va, .unset, .unset, .unset, .unset, .unset, .unset] [(.int (1 : Int32))])) (fun _ k_ => XS.iconst X0.here hx rfl (hb hby at_81) k_) ?_
      refine own_stW (T' := T0) (g' := (mkF m 86 #[iv shape, .val (.long pp), .second, iv pat, rv va, .unset, .unset, .unset, .unset, .unset, .unset] [(.int (1 : Int32))])) (fun _ k_ => XS.goto X0.here hx rfl (pc0 := 82) (pc' := 86) rfl (hb hby at_82) (by decide) (by decide) k_) ?_
      refine own_stW (T' := T0) (g' := (mkF m 88 #[iv shape, .val (.long pp), .second, iv pat, rv va, iv (1 : Int32), .unset, .unset, .unset, .unset, .unset] [])) (fun _ k_ => XS.istore X0.here hx rfl (hb hby at_86) rfl (l' := #[iv shape, .val (.long pp), .second, iv pat, rv va, iv (1 : Int32), .unset, .unset, .unset, .unset, .unset]) rfl k_) ?_
      exact seg_s88 h0 hB n0 shape pp pat va kc (1 : Int32) c0 c1 c2 c3 c4 c5 cz fm X0 hx hZs hZ hS0 hk0 CR0 hw hby hml howns hown hnm hret hlk e0 N0 O0 hr0 hr1 hr2 hr3 hr4 hr5 hn0 hn5 (Or.inr rfl) hn1 hn2 hn3 hn4 VA fva SC hcz SF hfm
    · refine own_stW (T' := T0) (g' := (mkF m 75 #[iv shape, .val (.long pp), .second, iv pat, rv va, .unset, .unset, .unset, .unset, .unset, .unset] [])) (fun _ k_ => XS.icmpNo X0.here hx rfl (hb hby at_72) rfl (feq hc2).1 k_) ?_
      refine own_stW (T' := T0) (g' := (mkF m 76 #[iv shape, .val (.long pp), .second, iv pat, rv va, .unset, .unset, .unset, .unset, .unset, .unset] [(.int pat)])) (fun _ k_ => XS.iloadN X0.here hx rfl (hb hby at_75) rfl  k_) ?_
      refine own_stW (T' := T0) (g' := (mkF m 78 #[iv shape, .val (.long pp), .second, iv pat, rv va, .unset, .unset, .unset, .unset, .unset, .unset] [(.int (6 : Int32)), (.int pat)])) (fun _ k_ => XS.bipush X0.here hx rfl (hb hby at_76) k_) ?_
      by_cases hc3 : pat = (6 : Int32)
      · refine own_stW (T' := T0) (g' := (mkF m 81 #[iv shape, .val (.long pp), .second, iv pat, rv va, .unset, .unset, .unset, .unset, .unset, .unset] [])) (fun _ k_ => XS.icmpNo X0.here hx rfl (hb hby at_78) rfl (teq hc3).2 k_) ?_
        refine own_stW (T' := T0) (g' := (mkF m 82 #[iv shape, .val (.long pp), .second, iv pat, rv va, .unset, .unset, .unset, .unset, .unset, .unset] [(.int (1 : Int32))])) (fun _ k_ => XS.iconst X0.here hx rfl (hb hby at_81) k_) ?_
        refine own_stW (T' := T0) (g' := (mkF m 86 #[iv shape, .val (.long pp), .second, iv pat, rv va, .unset, .unset, .unset, .unset, .unset, .unset] [(.int (1 : Int32))])) (fun _ k_ => XS.goto X0.here hx rfl (pc0 := 82) (pc' := 86) rfl (hb hby at_82) (by decide) (by decide) k_) ?_
        refine own_stW (T' := T0) (g' := (mkF m 88 #[iv shape, .val (.long pp), .second, iv pat, rv va, iv (1 : Int32), .unset, .unset, .unset, .unset, .unset] [])) (fun _ k_ => XS.istore X0.here hx rfl (hb hby at_86) rfl (l' := #[iv shape, .val (.long pp), .second, iv pat, rv va, iv (1 : Int32), .unset, .unset, .unset, .unset, .unset]) rfl k_) ?_
        exact seg_s88 h0 hB n0 shape pp pat va kc (1 : Int32) c0 c1 c2 c3 c4 c5 cz fm X0 hx hZs hZ hS0 hk0 CR0 hw hby hml howns hown hnm hret hlk e0 N0 O0 hr0 hr1 hr2 hr3 hr4 hr5 hn0 hn5 (Or.inr rfl) hn1 hn2 hn3 hn4 VA fva SC hcz SF hfm
      · refine own_stW (T' := T0) (g' := (mkF m 85 #[iv shape, .val (.long pp), .second, iv pat, rv va, .unset, .unset, .unset, .unset, .unset, .unset] [])) (fun _ k_ => XS.icmpYes X0.here hx rfl (pc0 := 78) (pc' := 85) rfl (hb hby at_78) rfl (feq hc3).2 (by decide) (by decide) k_) ?_
        refine own_stW (T' := T0) (g' := (mkF m 86 #[iv shape, .val (.long pp), .second, iv pat, rv va, .unset, .unset, .unset, .unset, .unset, .unset] [(.int (0 : Int32))])) (fun _ k_ => XS.iconst X0.here hx rfl (hb hby at_85) k_) ?_
        refine own_stW (T' := T0) (g' := (mkF m 88 #[iv shape, .val (.long pp), .second, iv pat, rv va, iv (0 : Int32), .unset, .unset, .unset, .unset, .unset] [])) (fun _ k_ => XS.istore X0.here hx rfl (hb hby at_86) rfl (l' := #[iv shape, .val (.long pp), .second, iv pat, rv va, iv (0 : Int32), .unset, .unset, .unset, .unset, .unset]) rfl k_) ?_
        exact seg_s88 h0 hB n0 shape pp pat va kc (0 : Int32) c0 c1 c2 c3 c4 c5 cz fm X0 hx hZs hZ hS0 hk0 CR0 hw hby hml howns hown hnm hret hlk e0 N0 O0 hr0 hr1 hr2 hr3 hr4 hr5 hn0 hn5 (Or.inl rfl) hn1 hn2 hn3 hn4 VA fva SC hcz SF hfm
theorem pd__JI_C : parseMethodDescriptor "(JI)C" = some ⟨[.long, .int], some .char⟩ := by decide +kernel
theorem ef_0 (m : MethodId) (x0 : Int32) (x1 : Int64) : entryFrame m #[(.int x0), (.long x1)] maxLocals = mkF m 0 #[iv x0, .val (.long x1), .second, .unset, .unset, .unset, .unset, .unset, .unset, .unset, .unset] [] := by first | (simp [entryFrame, mkF, argsToLocals, Value.category, maxLocals]; done) | rfl
set_option maxRecDepth 65536 in
set_option maxHeartbeats 40000000 in
theorem rm_0 (l : Launch) (Z : State) (a0 : Array Value) (hw : ∀ d ∈ tables_1, d.before a0 Z = true) (ws : List Jvm.Cond) (shape : Int32) (pp : Int64) (cz : Int32) (fm : Value) (h0 : Heap) (n0 : Nat) (O0 : Old Z n0 h0) (SC : Sta Z Z.heap "java/lang/String" "COMPACT_STRINGS" "Z" (.int cz)) (hcz : ¬ cz = (0 : Int32)) (SF : Sta Z Z.heap "jdk/internal/util/Preconditions" "SIOOBE_FORMATTER" "Ljava/util/function/BiFunction;" fm) (hfm : fm.isRef = true) :
    MetFree l x (head1 (Jvm.Cond.code x code maxLocals ret :: ws) room_1) (fun ar_ U => ar_ = #[(.int shape), (.long pp)] ∧ Z.Warmed39 U.vm ∧ U.heap = h0 ∧ CHv Z consts_1 U.vm h0 ∧ ∀ x ∈ ([] : List Addr), Safe Z consts_1 U.vm h0 x) (fun _ _ _ _ _ => True) (fun _ U o U' => ∃ v L, o = .returned v ∧ own_L n0 v U'.heap L ∧ CHr Z consts_1 U.vm U.heap U'.vm U'.heap ∧ ReturnedEndW U o U' L room_1.cells room_1.slots) := by
  refine MetFree.of_bodySF (plainFor_of_name pn_4) hisR ?_
  intro p e s m args below meth c s₁ Bd hml0 hP hK
  obtain ⟨rfl, hZ, hh, CH0, SF0⟩ := hP
  have hx := Bd.exec
  have hby := Bd.bytes
  have hml : c.maxLocals = 11 := hml0
  have hown : s.vm.findClass "com/example/sheafgate/sheafgate/store/SetSpecsLastPartPinLaw" = some m.cls := findClass_of_methodNamed Bd.named
  have hnm := (name_of_methodNamed Bd.named Bd.method).1
  have X0 : Stand p l e room_1 (s.setVm s.vm) m #[(.int shape), (.long pp)] below meth c s₁ [] 0 0 := Stand.of_body Bd
  have e0 : s₁.heap = h0 := by rw [← hh, Bd.state]; rfl
  have N0 := Fr.nil n0
  have hret := Bd.returns
  have hlk : meth.locks = false := Bd.notSynchronized
  have hEL := own_EW hw
  have hZs := hZ
  have howns := hown
  have hS0 : s.Since s.vm s.heap.size := (State.WarmedH.refl s).since _
  have hk0 : s.heap.size ≤ h0.size := Nat.le_of_eq (by rw [hh])
  have CR0 := CHr.refl CH0
  refine own_W0 hh ?_
  show own_W p e below s room_1.cells room_1.slots Z consts_1 h0 (own_L n0) s₁ (entryFrame m #[(.int shape), (.long pp)] maxLocals)
  rw [ef_0 m shape pp]
  refine own_stW (T' := s₁) (g' := (mkF m 1 #[iv shape, .val (.long pp), .second, .unset, .unset, .unset, .unset, .unset, .unset, .unset, .unset] [(.int shape)])) (fun _ k_ => XS.iloadN X0.here hx rfl (hb hby at_0) rfl  k_) ?_
  refine own_stW (T' := s₁) (g' := (mkF m 3 #[iv shape, .val (.long pp), .second, .unset, .unset, .unset, .unset, .unset, .unset, .unset, .unset] [(.int (7 : Int32)), (.int shape)])) (fun _ k_ => XS.bipush X0.here hx rfl (hb hby at_1) k_) ?_
  refine own_stW (T' := s₁) (g' := (mkF m 4 #[iv shape, .val (.long pp), .second, .unset, .unset, .unset, .unset, .unset, .unset, .unset, .unset] [(.int (shape &&& (7 : Int32)))])) (fun _ k_ => XS.iand X0.here hx rfl (hb hby at_3) rfl k_) ?_
  refine own_stW (T' := s₁) (g' := (mkF m 5 #[iv shape, .val (.long pp), .second, iv (shape &&& (7 : Int32)), .unset, .unset, .unset, .unset, .unset, .unset, .unset] [])) (fun _ k_ => XS.istoreN X0.here hx rfl (hb hby at_4) rfl (l' := #[iv shape, .val (.long pp), .second, iv (shape &&& (7 : Int32)), .unset, .unset, .unset, .unset, .unset, .unset, .unset]) rfl k_) ?_
  refine own_stW (T' := s₁) (g' := (mkF m 7 #[iv shape, .val (.long pp), .second, iv (shape &&& (7 : Int32)), .unset, .unset, .unset, .unset, .unset, .unset, .unset] [(.int (6 : Int32))])) (fun _ k_ => XS.bipush X0.here hx rfl (hb hby at_5) k_) ?_
  obtain ⟨T1, h1, k1, X1, e1, E1, A1, st1⟩ := newP X0 hx hZ (hw _ (List.mem_of_getElem? (i := 0) rfl)) e0 (g := (mkF m 7 #[iv shape, .val (.long pp), .second, iv (shape &&& (7 : Int32)), .unset, .unset, .unset, .unset, .unset, .unset, .unset] [(.int (6 : Int32))])) rfl (hb hby at_7) rfl (by decide) (cap := 6) (by decide) (by decide) (by decide) (by decide)
  obtain ⟨b1, g1⟩ : ∃ z, z = h0.size := ⟨_, rfl⟩
  rw [← g1] at A1 st1
  have fr1 : n0 ≤ b1 := Nat.le_trans (own_z O0) (Nat.le_of_eq g1.symm)
  have CR2 : CHr Z consts_1 s.vm h0 s.vm h1 := CR0.trans (CHr.ext E1 CR0.1)
  have V1 : Arv Z h1 b1 k1 .char (6 : Int32) [(.int (0 : Int32)), (.int (0 : Int32)), (.int (0 : Int32)), (.int (0 : Int32)), (.int (0 : Int32)), (.int (0 : Int32))] (.int (0 : Int32)) := (Arv.new A1 (by decide)).pad (pad_rep [] (.int (0 : Int32)) 6)
  refine own_stW (T' := T1) (g' := (mkF m 9 #[iv shape, .val (.long pp), .second, iv (shape &&& (7 : Int32)), .unset, .unset, .unset, .unset, .unset, .unset, .unset] [(.ref b1)])) st1 ?_
  clear st1
  refine own_stW (T' := T1) (g' := (mkF m 11 #[iv shape, .val (.long pp), .second, iv (shape &&& (7 : Int32)), rv b1, .unset, .unset, .unset, .unset, .unset, .unset] [])) (fun _ k_ => XS.astore X1.here hx rfl (hb hby at_9) rfl rfl (l' := #[iv shape, .val (.long pp), .second, iv (shape &&& (7 : Int32)), rv b1, .unset, .unset, .unset, .unset, .unset, .unset]) rfl k_) ?_
  refine own_stW (T' := T1) (g' := (mkF m 13 #[iv shape, .val (.long pp), .second, iv (shape &&& (7 : Int32)), rv b1, .unset, .unset, .unset, .unset, .unset, .unset] [(.ref b1)])) (fun _ k_ => XS.aload X1.here hx rfl (hb hby at_11) rfl rfl  k_) ?_
  refine own_stW (T' := T1) (g' := (mkF m 14 #[iv shape, .val (.long pp), .second, iv (shape &&& (7 : Int32)), rv b1, .unset, .unset, .unset, .unset, .unset, .unset] [(.int (0 : Int32)), (.ref b1)])) (fun _ k_ => XS.iconst X1.here hx rfl (hb hby at_13) k_) ?_
  refine own_stW (T' := T1) (g' := (mkF m 15 #[iv shape, .val (.long pp), .second, iv (shape &&& (7 : Int32)), rv b1, .unset, .unset, .unset, .unset, .unset, .unset] [(.long pp), (.int (0 : Int32)), (.ref b1)])) (fun _ k_ => XS.lloadN X1.here hx rfl (hb hby at_14) rfl  k_) ?_
  refine own_stW (T' := T1) (g' := (mkF m 16 #[iv shape, .val (.long pp), .second, iv (shape &&& (7 : Int32)), rv b1, .unset, .unset, .unset, .unset, .unset, .unset] [(.int (0 : Int32)), (.long pp), (.int (0 : Int32)), (.ref b1)])) (fun _ k_ => XS.iconst X1.here hx rfl (hb hby at_15) k_) ?_
  have f3 : Old Z n0 h1 := O0.ext E1
  obtain ⟨_, T4, L4, X4, hS4, hQ4, ch4, st4⟩ := own_callSWX X1 hx (y := own_m14) hown (mvT hZ (hw _ (List.mem_of_getElem? (i := 1) rfl))) (mvT hZ (hw _ (List.mem_of_getElem? (i := 2) rfl))) (mvT hZ (hw _ (List.mem_of_getElem? (i := 3) rfl))) (mvT hZ (hw _ (List.mem_of_getElem? (i := 4) rfl))) (by decide) (own_backWX0 (W := 2) (rm_pick1 l Z a0 hw [] pp (0 : Int32) cz fm h1 n0 f3 SC hcz SF hfm) hZ (hw _ (List.mem_of_getElem? (i := 4) rfl)) (hw _ (List.mem_of_getElem? (i := 3) rfl)) (by decide) (by decide) hEL CR2.1 sf0 all0) (g := (mkF m 16 #[iv shape, .val (.long pp), .second, iv (shape &&& (7 : Int32)), rv b1, .unset, .unset, .unset, .unset, .unset, .unset] [(.int (0 : Int32)), (.long pp), (.int (0 : Int32)), (.ref b1)])) rfl (by rw [hml]; rfl) (argsL := [(.long pp), (.int (0 : Int32))]) (rest := [(.int (0 : Int32)), (.ref b1)]) (lenOf pd__JI_C rfl) rfl (by show 2 * 0 + _ ≤ _; exact Nat.le_of_eq rfl) (hb hby at_16) rfl e1 (by decide) (by decide) (c' := 3) (s' := 294) rfl rfl hS0 (Nat.le_trans hk0 E1.1)
  obtain ⟨cc4, al4, at_4, ka4, rfl, Nq4, K4, fq4_0, fq4_1, fq4_2, fq4_3, xq4_hr, xq4_hn, xq4_Lt⟩ := hQ4
  have N4 := Fr.app N0 Nq4
  have CR5 : CHr Z consts_1 s.vm h0 T4.vm T4.heap := CR2.trans ch4
  have hZ4 : Z.Warmed39 (s.setVm T4.vm).vm := own_hZ hZs hS4
  have hown4 : (s.setVm T4.vm).vm.findClass "com/example/sheafgate/sheafgate/store/SetSpecsLastPartPinLaw" = some m.cls := own_hown howns hS4
  refine own_stW (T' := T4) (g' := (mkF m 19 #[iv shape, .val (.long pp), .second, iv (shape &&& (7 : Int32)), rv b1, .unset, .unset, .unset, .unset, .unset, .unset] [(.int cc4), (.int (0 : Int32)), (.ref b1)])) st4 ?_
  clear st4
  have f6 : Arv Z T4.heap b1 k1 .char (6 : Int32) [(.int (0 : Int32)), (.int (0 : Int32)), (.int (0 : Int32)), (.int (0 : Int32)), (.int (0 : Int32)), (.int (0 : Int32))] (.int (0 : Int32)) := V1.keep K4 nin0
  have nea : al4 ≠ b1 := own_neA fq4_0 (hw _ (List.mem_of_getElem? (i := 7) rfl)) f6
  have neb : b1 ≠ at_4 := own_neT f6 fq4_3 (by decide)
  obtain ⟨cl7, Ar7, q7, S7, N7, H7, G7⟩ := id f6
  have hin7 : ¬ ((0 : Int32) < 0 ∨ cl7.slots.size ≤ ((0 : Int32)).toNatClampNeg) := inb_of S7 ⟨by decide, by decide⟩
  obtain ⟨T8, h8, X8, e8, W8, st8⟩ := stC X4 hx hZ4 rfl Ar7 (j := (0 : Int32)) hin7 (g := (mkF m 19 #[iv shape, .val (.long pp), .second, iv (shape &&& (7 : Int32)), rv b1, .unset, .unset, .unset, .unset, .unset, .unset] [(.int cc4), (.int (0 : Int32)), (.ref b1)])) rfl rfl (hb hby at_19)
  have CR9 : CHr Z consts_1 s.vm h0 T4.vm h8 := CR5.trans (CHr.wr W8 (Safe.arv hZ4.alike f6 (by decide)) CR5.1)
  have V8 : Arv Z h8 b1 k1 .char (6 : Int32) [(.int (nar .char cc4)), (.int (0 : Int32)), (.int (0 : Int32)), (.int (0 : Int32)), (.int (0 : Int32)), (.int (0 : Int32))] (.int (0 : Int32)) := Arv.set Ar7 q7 S7 N7 H7 G7 (fits_nar_char _) W8 0 rfl (Nat.le_of_ble_eq_true rfl)
  have Vn8 : Arv Z h8 b1 k1 .char (6 : Int32) [(.int cc4), (.int (0 : Int32)), (.int (0 : Int32)), (.int (0 : Int32)), (.int (0 : Int32)), (.int (0 : Int32))] (.int (0 : Int32)) := by simpa only [own_nch xq4_hr] using V8
  have Nx8 := Fr.snoc X8 N4 fr1
  refine own_stW (T' := T8) (g' := (mkF m 20 #[iv shape, .val (.long pp), .second, iv (shape &&& (7 : Int32)), rv b1, .unset, .unset, .unset, .unset, .unset, .unset] [])) st8 ?_
  clear hin7 G7 H7 N7 S7 q7 Ar7 cl7 st8
  refine own_stW (T' := T8) (g' := (mkF m 22 #[iv shape, .val (.long pp), .second, iv (shape &&& (7 : Int32)), rv b1, .unset, .unset, .unset, .unset, .unset, .unset] [(.ref b1)])) (fun _ k_ => XS.aload X8.here hx rfl (hb hby at_20) rfl rfl  k_) ?_
  refine own_stW (T' := T8) (g' := (mkF m 23 #[iv shape, .val (.long pp), .second, iv (shape &&& (7 : Int32)), rv b1, .unset, .unset, .unset, .unset, .unset, .unset] [(.int (1 : Int32)), (.ref b1)])) (fun _ k_ => XS.iconst X8.here hx rfl (hb hby at_22) k_) ?_
  refine own_stW (T' := T8) (g' := (mkF m 24 #[iv shape, .val (.long pp), .second, iv (shape &&& (7 : Int32)), rv b1, .unset, .unset, .unset, .unset, .unset, .unset] [(.long pp), (.int (1 : Int32)), (.ref b1)])) (fun _ k_ => XS.lloadN X8.here hx rfl (hb hby at_23) rfl  k_) ?_
  refine own_stW (T' := T8) (g' := (mkF m 25 #[iv shape, .val (.long pp), .second, iv (shape &&& (7 : Int32)), rv b1, .unset, .unset, .unset, .unset, .unset, .unset] [(.int (1 : Int32)), (.long pp), (.int (1 : Int32)), (.ref b1)])) (fun _ k_ => XS.iconst X8.here hx rfl (hb hby at_24) k_) ?_
  have f10 : Exa Z h8 al4 "java/lang/String" := fq4_0.wr W8
  have f11 : Fld Z h8 al4 "java/lang/String" "value" "[B" (.ref at_4) := fq4_2.other W8 (Or.inl nea)
  have f12 : Fld Z h8 al4 "java/lang/String" "coder" "B" (.int (0 : Int32)) := fq4_1.other W8 (Or.inl nea)
  have f13 : Arv Z h8 at_4 ka4 .byte (Int32.ofNat own_al.length) ((own_al.map StrChars.lo8).map Value.int) (.int (0 : Int32)) := fq4_3.other W8 (Ne.symm neb)
  have f14 : Old Z n0 T4.heap := f3.keep K4 all0
  have f15 : Old Z n0 h8 := f14.wr W8 fr1
  obtain ⟨_, T16, L16, X16, hS16, hQ16, ch16, st16⟩ := own_callSWX X8 hx (y := own_m14) hown4 (mvT hZ4 (hw _ (List.mem_of_getElem? (i := 1) rfl))) (mvT hZ4 (hw _ (List.mem_of_getElem? (i := 2) rfl))) (mvT hZ4 (hw _ (List.mem_of_getElem? (i := 3) rfl))) (mvT hZ4 (hw _ (List.mem_of_getElem? (i := 4) rfl))) (by decide) (own_backWX1 (W := 2) xq4_Lt (rm_pick2 l Z a0 hw [] pp (1 : Int32) al4 at_4 ka4 cz fm h8 n0 f15 f10 f11 f12 f13 SC hcz SF hfm) hZ4 (hw _ (List.mem_of_getElem? (i := 4) rfl)) (hw _ (List.mem_of_getElem? (i := 3) rfl)) (by decide) (by decide) hEL CR9.1 sf0 all0) (g := (mkF m 25 #[iv shape, .val (.long pp), .second, iv (shape &&& (7 : Int32)), rv b1, .unset, .unset, .unset, .unset, .unset, .unset] [(.int (1 : Int32)), (.long pp), (.int (1 : Int32)), (.ref b1)])) rfl (by rw [hml]; rfl) (argsL := [(.long pp), (.int (1 : Int32))]) (rest := [(.int (1 : Int32)), (.ref b1)]) (lenOf pd__JI_C rfl) rfl (by show 2 * 0 + _ ≤ _; exact Nat.le_of_eq rfl) (hb hby at_25) rfl e8 (by decide) (by decide) (c' := 3) (s' := 294) rfl rfl hS4 (Nat.le_trans (Nat.le_refl _) (Nat.le_of_eq (Wr.size W8).symm))
  obtain ⟨cc16, rfl, Nq16, K16, xq16_hr, xq16_hn, xq16_Lt⟩ := hQ16
  have N16 := Fr.app Nx8 Nq16
  have CR17 : CHr Z consts_1 s.vm h0 T16.vm T16.heap := CR9.trans ch16
  have hZ16 : Z.Warmed39 (s.setVm T16.vm).vm := own_hZ hZs hS16
  have hown16 : (s.setVm T16.vm).vm.findClass "com/example/sheafgate/sheafgate/store/SetSpecsLastPartPinLaw" = some m.cls := own_hown howns hS16
  refine own_stW (T' := T16) (g' := (mkF m 28 #[iv shape, .val (.long pp), .second, iv (shape &&& (7 : Int32)), rv b1, .unset, .unset, .unset, .unset, .unset, .unset] [(.int cc16), (.int (1 : Int32)), (.ref b1)])) st16 ?_
  clear st16
  have f18 : Arv Z T16.heap b1 k1 .char (6 : Int32) [(.int cc4), (.int (0 : Int32)), (.int (0 : Int32)), (.int (0 : Int32)), (.int (0 : Int32)), (.int (0 : Int32))] (.int (0 : Int32)) := Vn8.keep K16 nin0
  obtain ⟨cl19, Ar19, q19, S19, N19, H19, G19⟩ := id f18
  have hin19 : ¬ ((1 : Int32) < 0 ∨ cl19.slots.size ≤ ((1 : Int32)).toNatClampNeg) := inb_of S19 ⟨by decide, by decide⟩
  obtain ⟨T20, h20, X20, e20, W20, st20⟩ := stC X16 hx hZ16 rfl Ar19 (j := (1 : Int32)) hin19 (g := (mkF m 28 #[iv shape, .val (.long pp), .second, iv (shape &&& (7 : Int32)), rv b1, .unset, .unset, .unset, .unset, .unset, .unset] [(.int cc16), (.int (1 : Int32)), (.ref b1)])) rfl rfl (hb hby at_28)
  have CR21 : CHr Z consts_1 s.vm h0 T16.vm h20 := CR17.trans (CHr.wr W20 (Safe.arv hZ16.alike f18 (by decide)) CR17.1)
  have V20 : Arv Z h20 b1 k1 .char (6 : Int32) [(.int cc4), (.int (nar .char cc16)), (.int (0 : Int32)), (.int (0 : Int32)), (.int (0 : Int32)), (.int (0 : Int32))] (.int (0 : Int32)) := Arv.set Ar19 q19 S19 N19 H19 G19 (fits_nar_char _) W20 1 rfl (Nat.le_of_ble_eq_true rfl)
  have Vn20 : Arv Z h20 b1 k1 .char (6 : Int32) [(.int cc4), (.int cc16), (.int (0 : Int32)), (.int (0 : Int32)), (.int (0 : Int32)), (.int (0 : Int32))] (.int (0 : Int32)) := by simpa only [own_nch xq16_hr] using V20
  have Nx20 := Fr.snoc X20 N16 fr1
  refine own_stW (T' := T20) (g' := (mkF m 29 #[iv shape, .val (.long pp), .second, iv (shape &&& (7 : Int32)), rv b1, .unset, .unset, .unset, .unset, .unset, .unset] [])) st20 ?_
  clear hin19 G19 H19 N19 S19 q19 Ar19 cl19 st20
  refine own_stW (T' := T20) (g' := (mkF m 31 #[iv shape, .val (.long pp), .second, iv (shape &&& (7 : Int32)), rv b1, .unset, .unset, .unset, .unset, .unset, .unset] [(.ref b1)])) (fun _ k_ => XS.aload X20.here hx rfl (hb hby at_29) rfl rfl  k_) ?_
  refine own_stW (T' := T20) (g' := (mkF m 32 #[iv shape, .val (.long pp), .second, iv (shape &&& (7 : Int32)), rv b1, .unset, .unset, .unset, .unset, .unset, .unset] [(.int (2 : Int32)), (.ref b1)])) (fun _ k_ => XS.iconst X20.here hx rfl (hb hby at_31) k_) ?_
  refine own_stW (T' := T20) (g' := (mkF m 33 #[iv shape, .val (.long pp), .second, iv (shape &&& (7 : Int32)), rv b1, .unset, .unset, .unset, .unset, .unset, .unset] [(.long pp), (.int (2 : Int32)), (.ref b1)])) (fun _ k_ => XS.lloadN X20.here hx rfl (hb hby at_32) rfl  k_) ?_
  refine own_stW (T' := T20) (g' := (mkF m 34 #[iv shape, .val (.long pp), .second, iv (shape &&& (7 : Int32)), rv b1, .unset, .unset, .unset, .unset, .unset, .unset] [(.int (2 : Int32)), (.long pp), (.int (2 : Int32)), (.ref b1)])) (fun _ k_ => XS.iconst X20.here hx rfl (hb hby at_33) k_) ?_
  have f22 : Exa Z T16.heap al4 "java/lang/String" := f10.keep K16
  have f23 : Exa Z h20 al4 "java/lang/String" := f22.wr W20
  have f24 : Fld Z T16.heap al4 "java/lang/String" "value" "[B" (.ref at_4) := f11.keep K16 nin0
  have f25 : Fld Z h20 al4 "java/lang/String" "value" "[B" (.ref at_4) := f24.other W20 (Or.inl nea)
  have f26 : Fld Z T16.heap al4 "java/lang/String" "coder" "B" (.int (0 : Int32)) := f12.keep K16 nin0
  have f27 : Fld Z h20 al4 "java/lang/String" "coder" "B" (.int (0 : Int32)) := f26.other W20 (Or.inl nea)
  have f28 : Arv Z T16.heap at_4 ka4 .byte (Int32.ofNat own_al.length) ((own_al.map StrChars.lo8).map Value.int) (.int (0 : Int32)) := f13.keep K16 nin0
  have f29 : Arv Z h20 at_4 ka4 .byte (Int32.ofNat own_al.length) ((own_al.map StrChars.lo8).map Value.int) (.int (0 : Int32)) := f28.other W20 (Ne.symm neb)
  have f30 : Old Z n0 T16.heap := f15.keep K16 all0
  have f31 : Old Z n0 h20 := f30.wr W20 fr1
  obtain ⟨_, T32, L32, X32, hS32, hQ32, ch32, st32⟩ := own_callSWX X20 hx (y := own_m14) hown16 (mvT hZ16 (hw _ (List.mem_of_getElem? (i := 1) rfl))) (mvT hZ16 (hw _ (List.mem_of_getElem? (i := 2) rfl))) (mvT hZ16 (hw _ (List.mem_of_getElem? (i := 3) rfl))) (mvT hZ16 (hw _ (List.mem_of_getElem? (i := 4) rfl))) (by decide) (own_backWX1 (W := 2) xq16_Lt (rm_pick2 l Z a0 hw [] pp (2 : Int32) al4 at_4 ka4 cz fm h20 n0 f31 f23 f25 f27 f29 SC hcz SF hfm) hZ16 (hw _ (List.mem_of_getElem? (i := 4) rfl)) (hw _ (List.mem_of_getElem? (i := 3) rfl)) (by decide) (by decide) hEL CR21.1 sf0 all0) (g := (mkF m 34 #[iv shape, .val (.long pp), .second, iv (shape &&& (7 : Int32)), rv b1, .unset, .unset, .unset, .unset, .unset, .unset] [(.int (2 : Int32)), (.long pp), (.int (2 : Int32)), (.ref b1)])) rfl (by rw [hml]; rfl) (argsL := [(.long pp), (.int (2 : Int32))]) (rest := [(.int (2 : Int32)), (.ref b1)]) (lenOf pd__JI_C rfl) rfl (by show 2 * 0 + _ ≤ _; exact Nat.le_of_eq rfl) (hb hby at_34) rfl e20 (by decide) (by decide) (c' := 3) (s' := 294) rfl rfl hS16 (Nat.le_trans (Nat.le_refl _) (Nat.le_of_eq (Wr.size W20).symm))
  obtain ⟨cc32, rfl, Nq32, K32, xq32_hr, xq32_hn, xq32_Lt⟩ := hQ32
  have N32 := Fr.app Nx20 Nq32
  have CR33 : CHr Z consts_1 s.vm h0 T32.vm T32.heap := CR21.trans ch32
  have hZ32 : Z.Warmed39 (s.setVm T32.vm).vm := own_hZ hZs hS32
  have hown32 : (s.setVm T32.vm).vm.findClass "com/example/sheafgate/sheafgate/store/SetSpecsLastPartPinLaw" = some m.cls := own_hown howns hS32
  refine own_stW (T' := T32) (g' := (mkF m 37 #[iv shape, .val (.long pp), .second, iv (shape &&& (7 : Int32)), rv b1, .unset, .unset, .unset, .unset, .unset, .unset] [(.int cc32), (.int (2 : Int32)), (.ref b1)])) st32 ?_
  clear st32
  have f34 : Arv Z T32.heap b1 k1 .char (6 : Int32) [(.int cc4), (.int cc16), (.int (0 : Int32)), (.int (0 : Int32)), (.int (0 : Int32)), (.int (0 : Int32))] (.int (0 : Int32)) := Vn20.keep K32 nin0
  obtain ⟨cl35, Ar35, q35, S35, N35, H35, G35⟩ := id f34
  have hin35 : ¬ ((2 : Int32) < 0 ∨ cl35.slots.size ≤ ((2 : Int32)).toNatClampNeg) := inb_of S35 ⟨by decide, by decide⟩
  obtain ⟨T36, h36, X36, e36, W36, st36⟩ := stC X32 hx hZ32 rfl Ar35 (j := (2 : Int32)) hin35 (g := (mkF m 37 #[iv shape, .val (.long pp), .second, iv (shape &&& (7 : Int32)), rv b1, .unset, .unset, .unset, .unset, .unset, .unset] [(.int cc32), (.int (2 : Int32)), (.ref b1)])) rfl rfl (hb hby at_37)
  have CR37 : CHr Z consts_1 s.vm h0 T32.vm h36 := CR33.trans (CHr.wr W36 (Safe.arv hZ32.alike f34 (by decide)) CR33.1)
  have V36 : Arv Z h36 b1 k1 .char (6 : Int32) [(.int cc4), (.int cc16), (.int (nar .char cc32)), (.int (0 : Int32)), (.int (0 : Int32)), (.int (0 : Int32))] (.int (0 : Int32)) := Arv.set Ar35 q35 S35 N35 H35 G35 (fits_nar_char _) W36 2 rfl (Nat.le_of_ble_eq_true rfl)
  have Vn36 : Arv Z h36 b1 k1 .char (6 : Int32) [(.int cc4), (.int cc16), (.int cc32), (.int (0 : Int32)), (.int (0 : Int32)), (.int (0 : Int32))] (.int (0 : Int32)) := by simpa only [own_nch xq32_hr] using V36
  have Nx36 := Fr.snoc X36 N32 fr1
  refine own_stW (T' := T36) (g' := (mkF m 38 #[iv shape, .val (.long pp), .second, iv (shape &&& (7 : Int32)), rv b1, .unset, .unset, .unset, .unset, .unset, .unset] [])) st36 ?_
  clear hin35 G35 H35 N35 S35 q35 Ar35 cl35 st36
  refine own_stW (T' := T36) (g' := (mkF m 40 #[iv shape, .val (.long pp), .second, iv (shape &&& (7 : Int32)), rv b1, .unset, .unset, .unset, .unset, .unset, .unset] [(.ref b1)])) (fun _ k_ => XS.aload X36.here hx rfl (hb hby at_38) rfl rfl  k_) ?_
  refine own_stW (T' := T36) (g' := (mkF m 41 #[iv shape, .val (.long pp), .second, iv (shape &&& (7 : Int32)), rv b1, .unset, .unset, .unset, .unset, .unset, .unset] [(.int (3 : Int32)), (.ref b1)])) (fun _ k_ => XS.iconst X36.here hx rfl (hb hby at_40) k_) ?_
  refine own_stW (T' := T36) (g' := (mkF m 42 #[iv shape, .val (.long pp), .second, iv (shape &&& (7 : Int32)), rv b1, .unset, .unset, .unset, .unset, .unset, .unset] [(.long pp), (.int (3 : Int32)), (.ref b1)])) (fun _ k_ => XS.lloadN X36.here hx rfl (hb hby at_41) rfl  k_) ?_
  refine own_stW (T' := T36) (g' := (mkF m 43 #[iv shape, .val (.long pp), .second, iv (shape &&& (7 : Int32)), rv b1, .unset, .unset, .unset, .unset, .unset, .unset] [(.int (3 : Int32)), (.long pp), (.int (3 : Int32)), (.ref b1)])) (fun _ k_ => XS.iconst X36.here hx rfl (hb hby at_42) k_) ?_
  have f38 : Exa Z T32.heap al4 "java/lang/String" := f23.keep K32
  have f39 : Exa Z h36 al4 "java/lang/String" := f38.wr W36
  have f40 : Fld Z T32.heap al4 "java/lang/String" "value" "[B" (.ref at_4) := f25.keep K32 nin0
  have f41 : Fld Z h36 al4 "java/lang/String" "value" "[B" (.ref at_4) := f40.other W36 (Or.inl nea)
  have f42 : Fld Z T32.heap al4 "java/lang/String" "coder" "B" (.int (0 : Int32)) := f27.keep K32 nin0
  have f43 : Fld Z h36 al4 "java/lang/String" "coder" "B" (.int (0 : Int32)) := f42.other W36 (Or.inl nea)
  have f44 : Arv Z T32.heap at_4 ka4 .byte (Int32.ofNat own_al.length) ((own_al.map StrChars.lo8).map Value.int) (.int (0 : Int32)) := f29.keep K32 nin0
  have f45 : Arv Z h36 at_4 ka4 .byte (Int32.ofNat own_al.length) ((own_al.map StrChars.lo8).map Value.int) (.int (0 : Int32)) := f44.other W36 (Ne.symm neb)
  have f46 : Old Z n0 T32.heap := f31.keep K32 all0
  have f47 : Old Z n0 h36 := f46.wr W36 fr1
  obtain ⟨_, T48, L48, X48, hS48, hQ48, ch48, st48⟩ := own_callSWX X36 hx (y := own_m14) hown32 (mvT hZ32 (hw _ (List.mem_of_getElem? (i := 1) rfl))) (mvT hZ32 (hw _ (List.mem_of_getElem? (i := 2) rfl))) (mvT hZ32 (hw _ (List.mem_of_getElem? (i := 3) rfl))) (mvT hZ32 (hw _ (List.mem_of_getElem? (i := 4) rfl))) (by decide) (own_backWX1 (W := 2) xq32_Lt (rm_pick2 l Z a0 hw [] pp (3 : Int32) al4 at_4 ka4 cz fm h36 n0 f47 f39 f41 f43 f45 SC hcz SF hfm) hZ32 (hw _ (List.mem_of_getElem? (i := 4) rfl)) (hw _ (List.mem_of_getElem? (i := 3) rfl)) (by decide) (by decide) hEL CR37.1 sf0 all0) (g := (mkF m 43 #[iv shape, .val (.long pp), .second, iv (shape &&& (7 : Int32)), rv b1, .unset, .unset, .unset, .unset, .unset, .unset] [(.int (3 : Int32)), (.long pp), (.int (3 : Int32)), (.ref b1)])) rfl (by rw [hml]; rfl) (argsL := [(.long pp), (.int (3 : Int32))]) (rest := [(.int (3 : Int32)), (.ref b1)]) (lenOf pd__JI_C rfl) rfl (by show 2 * 0 + _ ≤ _; exact Nat.le_of_eq rfl) (hb hby at_43) rfl e36 (by decide) (by decide) (c' := 3) (s' := 294) rfl rfl hS32 (Nat.le_trans (Nat.le_refl _) (Nat.le_of_eq (Wr.size W36).symm))
  obtain ⟨cc48, rfl, Nq48, K48, xq48_hr, xq48_hn, xq48_Lt⟩ := hQ48
  have N48 := Fr.app Nx36 Nq48
  have CR49 : CHr Z consts_1 s.vm h0 T48.vm T48.heap := CR37.trans ch48
  have hZ48 : Z.Warmed39 (s.setVm T48.vm).vm := own_hZ hZs hS48
  have hown48 : (s.setVm T48.vm).vm.findClass "com/example/sheafgate/sheafgate/store/SetSpecsLastPartPinLaw" = some m.cls := own_hown howns hS48
  refine own_stW (T' := T48) (g' := (mkF m 46 #[iv shape, .val (.long pp), .second, iv (shape &&& (7 : Int32)), rv b1, .unset, .unset, .unset, .unset, .unset, .unset] [(.int cc48), (.int (3 : Int32)), (.ref b1)])) st48 ?_
  clear st48
  have f50 : Arv Z T48.heap b1 k1 .char (6 : Int32) [(.int cc4), (.int cc16), (.int cc32), (.int (0 : Int32)), (.int (0 : Int32)), (.int (0 : Int32))] (.int (0 : Int32)) := Vn36.keep K48 nin0
  obtain ⟨cl51, Ar51, q51, S51, N51, H51, G51⟩ := id f50
  have hin51 : ¬ ((3 : Int32) < 0 ∨ cl51.slots.size ≤ ((3 : Int32)).toNatClampNeg) := inb_of S51 ⟨by decide, by decide⟩
  obtain ⟨T52, h52, X52, e52, W52, st52⟩ := stC X48 hx hZ48 rfl Ar51 (j := (3 : Int32)) hin51 (g := (mkF m 46 #[iv shape, .val (.long pp), .second, iv (shape &&& (7 : Int32)), rv b1, .unset, .unset, .unset, .unset, .unset, .unset] [(.int cc48), (.int (3 : Int32)), (.ref b1)])) rfl rfl (hb hby at_46)
  have CR53 : CHr Z consts_1 s.vm h0 T48.vm h52 := CR49.trans (CHr.wr W52 (Safe.arv hZ48.alike f50 (by decide)) CR49.1)
  have V52 : Arv Z h52 b1 k1 .char (6 : Int32) [(.int cc4), (.int cc16), (.int cc32), (.int (nar .char cc48)), (.int (0 : Int32)), (.int (0 : Int32))] (.int (0 : Int32)) := Arv.set Ar51 q51 S51 N51 H51 G51 (fits_nar_char _) W52 3 rfl (Nat.le_of_ble_eq_true rfl)
  have Vn52 : Arv Z h52 b1 k1 .char (6 : Int32) [(.int cc4), (.int cc16), (.int cc32), (.int cc48), (.int (0 : Int32)), (.int (0 : Int32))] (.int (0 : Int32)) := by simpa only [own_nch xq48_hr] using V52
  have Nx52 := Fr.snoc X52 N48 fr1
  refine own_stW (T' := T52) (g' := (mkF m 47 #[iv shape, .val (.long pp), .second, iv (shape &&& (7 : Int32)), rv b1, .unset, .unset, .unset, .unset, .unset, .unset] [])) st52 ?_
  clear hin51 G51 H51 N51 S51 q51 Ar51 cl51 st52
  refine own_stW (T' := T52) (g' := (mkF m 49 #[iv shape, .val (.long pp), .second, iv (shape &&& (7 : Int32)), rv b1, .unset, .unset, .unset, .unset, .unset, .unset] [(.ref b1)])) (fun _ k_ => XS.aload X52.here hx rfl (hb hby at_47) rfl rfl  k_) ?_
  refine own_stW (T' := T52) (g' := (mkF m 50 #[iv shape, .val (.long pp), .second, iv (shape &&& (7 : Int32)), rv b1, .unset, .unset, .unset, .unset, .unset, .unset] [(.int (4 : Int32)), (.ref b1)])) (fun _ k_ => XS.iconst X52.here hx rfl (hb hby at_49) k_) ?_
  refine own_stW (T' := T52) (g' := (mkF m 51 #[iv shape, .val (.long pp), .second, iv (shape &&& (7 : Int32)), rv b1, .unset, .unset, .unset, .unset, .unset, .unset] [(.long pp), (.int (4 : Int32)), (.ref b1)])) (fun _ k_ => XS.lloadN X52.here hx rfl (hb hby at_50) rfl  k_) ?_
  refine own_stW (T' := T52) (g' := (mkF m 52 #[iv shape, .val (.long pp), .second, iv (shape &&& (7 : Int32)), rv b1, .unset, .unset, .unset, .unset, .unset, .unset] [(.int (4 : Int32)), (.long pp), (.int (4 : Int32)), (.ref b1)])) (fun _ k_ => XS.iconst X52.here hx rfl (hb hby at_51) k_) ?_
  have f54 : Exa Z T48.heap al4 "java/lang/String" := f39.keep K48
  have f55 : Exa Z h52 al4 "java/lang/String" := f54.wr W52
  have f56 : Fld Z T48.heap al4 "java/lang/String" "value" "[B" (.ref at_4) := f41.keep K48 nin0
  have f57 : Fld Z h52 al4 "java/lang/String" "value" "[B" (.ref at_4) := f56.other W52 (Or.inl nea)
  have f58 : Fld Z T48.heap al4 "java/lang/String" "coder" "B" (.int (0 : Int32)) := f43.keep K48 nin0
  have f59 : Fld Z h52 al4 "java/lang/String" "coder" "B" (.int (0 : Int32)) := f58.other W52 (Or.inl nea)
  have f60 : Arv Z T48.heap at_4 ka4 .byte (Int32.ofNat own_al.length) ((own_al.map StrChars.lo8).map Value.int) (.int (0 : Int32)) := f45.keep K48 nin0
  have f61 : Arv Z h52 at_4 ka4 .byte (Int32.ofNat own_al.length) ((own_al.map StrChars.lo8).map Value.int) (.int (0 : Int32)) := f60.other W52 (Ne.symm neb)
  have f62 : Old Z n0 T48.heap := f47.keep K48 all0
  have f63 : Old Z n0 h52 := f62.wr W52 fr1
  obtain ⟨_, T64, L64, X64, hS64, hQ64, ch64, st64⟩ := own_callSWX X52 hx (y := own_m14) hown48 (mvT hZ48 (hw _ (List.mem_of_getElem? (i := 1) rfl))) (mvT hZ48 (hw _ (List.mem_of_getElem? (i := 2) rfl))) (mvT hZ48 (hw _ (List.mem_of_getElem? (i := 3) rfl))) (mvT hZ48 (hw _ (List.mem_of_getElem? (i := 4) rfl))) (by decide) (own_backWX1 (W := 2) xq48_Lt (rm_pick2 l Z a0 hw [] pp (4 : Int32) al4 at_4 ka4 cz fm h52 n0 f63 f55 f57 f59 f61 SC hcz SF hfm) hZ48 (hw _ (List.mem_of_getElem? (i := 4) rfl)) (hw _ (List.mem_of_getElem? (i := 3) rfl)) (by decide) (by decide) hEL CR53.1 sf0 all0) (g := (mkF m 52 #[iv shape, .val (.long pp), .second, iv (shape &&& (7 : Int32)), rv b1, .unset, .unset, .unset, .unset, .unset, .unset] [(.int (4 : Int32)), (.long pp), (.int (4 : Int32)), (.ref b1)])) rfl (by rw [hml]; rfl) (argsL := [(.long pp), (.int (4 : Int32))]) (rest := [(.int (4 : Int32)), (.ref b1)]) (lenOf pd__JI_C rfl) rfl (by show 2 * 0 + _ ≤ _; exact Nat.le_of_eq rfl) (hb hby at_52) rfl e52 (by decide) (by decide) (c' := 3) (s' := 294) rfl rfl hS48 (Nat.le_trans (Nat.le_refl _) (Nat.le_of_eq (Wr.size W52).symm))
  obtain ⟨cc64, rfl, Nq64, K64, xq64_hr, xq64_hn, xq64_Lt⟩ := hQ64
  have N64 := Fr.app Nx52 Nq64
  have CR65 : CHr Z consts_1 s.vm h0 T64.vm T64.heap := CR53.trans ch64
  have hZ64 : Z.Warmed39 (s.setVm T64.vm).vm := own_hZ hZs hS64
  have hown64 : (s.setVm T64.vm).vm.findClass "com/example/sheafgate/sheafgate/store/SetSpecsLastPartPinLaw" = some m.cls := own_hown howns hS64
  refine own_stW (T' := T64) (g' := (mkF m 55 #[iv shape, .val (.long pp), .second, iv (shape &&& (7 : Int32)), rv b1, .unset, .unset, .unset, .unset, .unset, .unset] [(.int cc64), (.int (4 : Int32)), (.ref b1)])) st64 ?_
  clear st64
  have f66 : Arv Z T64.heap b1 k1 .char (6 : Int32) [(.int cc4), (.int cc16), (.int cc32), (.int cc48), (.int (0 : Int32)), (.int (0 : Int32))] (.int (0 : Int32)) := Vn52.keep K64 nin0
  obtain ⟨cl67, Ar67, q67, S67, N67, H67, G67⟩ := id f66
  have hin67 : ¬ ((4 : Int32) < 0 ∨ cl67.slots.size ≤ ((4 : Int32)).toNatClampNeg) := inb_of S67 ⟨by decide, by decide⟩
  obtain ⟨T68, h68, X68, e68, W68, st68⟩ := stC X64 hx hZ64 rfl Ar67 (j := (4 : Int32)) hin67 (g := (mkF m 55 #[iv shape, .val (.long pp), .second, iv (shape &&& (7 : Int32)), rv b1, .unset, .unset, .unset, .unset, .unset, .unset] [(.int cc64), (.int (4 : Int32)), (.ref b1)])) rfl rfl (hb hby at_55)
  have CR69 : CHr Z consts_1 s.vm h0 T64.vm h68 := CR65.trans (CHr.wr W68 (Safe.arv hZ64.alike f66 (by decide)) CR65.1)
  have V68 : Arv Z h68 b1 k1 .char (6 : Int32) [(.int cc4), (.int cc16), (.int cc32), (.int cc48), (.int (nar .char cc64)), (.int (0 : Int32))] (.int (0 : Int32)) := Arv.set Ar67 q67 S67 N67 H67 G67 (fits_nar_char _) W68 4 rfl (Nat.le_of_ble_eq_true rfl)
  have Vn68 : Arv Z h68 b1 k1 .char (6 : Int32) [(.int cc4), (.int cc16), (.int cc32), (.int cc48), (.int cc64), (.int (0 : Int32))] (.int (0 : Int32)) := by simpa only [own_nch xq64_hr] using V68
  have Nx68 := Fr.snoc X68 N64 fr1
  refine own_stW (T' := T68) (g' := (mkF m 56 #[iv shape, .val (.long pp), .second, iv (shape &&& (7 : Int32)), rv b1, .unset, .unset, .unset, .unset, .unset, .unset] [])) st68 ?_
  clear hin67 G67 H67 N67 S67 q67 Ar67 cl67 st68
  refine own_stW (T' := T68) (g' := (mkF m 58 #[iv shape, .val (.long pp), .second, iv (shape &&& (7 : Int32)), rv b1, .unset, .unset, .unset, .unset, .unset, .unset] [(.ref b1)])) (fun _ k_ => XS.aload X68.here hx rfl (hb hby at_56) rfl rfl  k_) ?_
  refine own_stW (T' := T68) (g' := (mkF m 59 #[iv shape, .val (.long pp), .second, iv (shape &&& (7 : Int32)), rv b1, .unset, .unset, .unset, .unset, .unset, .unset] [(.int (5 : Int32)), (.ref b1)])) (fun _ k_ => XS.iconst X68.here hx rfl (hb hby at_58) k_) ?_
  refine own_stW (T' := T68) (g' := (mkF m 60 #[iv shape, .val (.long pp), .second, iv (shape &&& (7 : Int32)), rv b1, .unset, .unset, .unset, .unset, .unset, .unset] [(.long pp), (.int (5 : Int32)), (.ref b1)])) (fun _ k_ => XS.lloadN X68.here hx rfl (hb hby at_59) rfl  k_) ?_
  refine own_stW (T' := T68) (g' := (mkF m 61 #[iv shape, .val (.long pp), .second, iv (shape &&& (7 : Int32)), rv b1, .unset, .unset, .unset, .unset, .unset, .unset] [(.int (5 : Int32)), (.long pp), (.int (5 : Int32)), (.ref b1)])) (fun _ k_ => XS.iconst X68.here hx rfl (hb hby at_60) k_) ?_
  have f70 : Exa Z T64.heap al4 "java/lang/String" := f55.keep K64
  have f71 : Exa Z h68 al4 "java/lang/String" := f70.wr W68
  have f72 : Fld Z T64.heap al4 "java/lang/String" "value" "[B" (.ref at_4) := f57.keep K64 nin0
  have f73 : Fld Z h68 al4 "java/lang/String" "value" "[B" (.ref at_4) := f72.other W68 (Or.inl nea)
  have f74 : Fld Z T64.heap al4 "java/lang/String" "coder" "B" (.int (0 : Int32)) := f59.keep K64 nin0
  have f75 : Fld Z h68 al4 "java/lang/String" "coder" "B" (.int (0 : Int32)) := f74.other W68 (Or.inl nea)
  have f76 : Arv Z T64.heap at_4 ka4 .byte (Int32.ofNat own_al.length) ((own_al.map StrChars.lo8).map Value.int) (.int (0 : Int32)) := f61.keep K64 nin0
  have f77 : Arv Z h68 at_4 ka4 .byte (Int32.ofNat own_al.length) ((own_al.map StrChars.lo8).map Value.int) (.int (0 : Int32)) := f76.other W68 (Ne.symm neb)
  have f78 : Old Z n0 T64.heap := f63.keep K64 all0
  have f79 : Old Z n0 h68 := f78.wr W68 fr1
  obtain ⟨_, T80, L80, X80, hS80, hQ80, ch80, st80⟩ := own_callSWX X68 hx (y := own_m14) hown64 (mvT hZ64 (hw _ (List.mem_of_getElem? (i := 1) rfl))) (mvT hZ64 (hw _ (List.mem_of_getElem? (i := 2) rfl))) (mvT hZ64 (hw _ (List.mem_of_getElem? (i := 3) rfl))) (mvT hZ64 (hw _ (List.mem_of_getElem? (i := 4) rfl))) (by decide) (own_backWX1 (W := 2) xq64_Lt (rm_pick2 l Z a0 hw [] pp (5 : Int32) al4 at_4 ka4 cz fm h68 n0 f79 f71 f73 f75 f77 SC hcz SF hfm) hZ64 (hw _ (List.mem_of_getElem? (i := 4) rfl)) (hw _ (List.mem_of_getElem? (i := 3) rfl)) (by decide) (by decide) hEL CR69.1 sf0 all0) (g := (mkF m 61 #[iv shape, .val (.long pp), .second, iv (shape &&& (7 : Int32)), rv b1, .unset, .unset, .unset, .unset, .unset, .unset] [(.int (5 : Int32)), (.long pp), (.int (5 : Int32)), (.ref b1)])) rfl (by rw [hml]; rfl) (argsL := [(.long pp), (.int (5 : Int32))]) (rest := [(.int (5 : Int32)), (.ref b1)]) (lenOf pd__JI_C rfl) rfl (by show 2 * 0 + _ ≤ _; exact Nat.le_of_eq rfl) (hb hby at_61) rfl e68 (by decide) (by decide) (c' := 3) (s' := 294) rfl rfl hS64 (Nat.le_trans (Nat.le_refl _) (Nat.le_of_eq (Wr.size W68).symm))
  obtain ⟨cc80, rfl, Nq80, K80, xq80_hr, xq80_hn, xq80_Lt⟩ := hQ80
  have N80 := Fr.app Nx68 Nq80
  have CR81 : CHr Z consts_1 s.vm h0 T80.vm T80.heap := CR69.trans ch80
  have hZ80 : Z.Warmed39 (s.setVm T80.vm).vm := own_hZ hZs hS80
  have hown80 : (s.setVm T80.vm).vm.findClass "com/example/sheafgate/sheafgate/store/SetSpecsLastPartPinLaw" = some m.cls := own_hown howns hS80
  refine own_stW (T' := T80) (g' := (mkF m 64 #[iv shape, .val (.long pp), .second, iv (shape &&& (7 : Int32)), rv b1, .unset, .unset, .unset, .unset, .unset, .unset] [(.int cc80), (.int (5 : Int32)), (.ref b1)])) st80 ?_
  clear st80
  have f82 : Arv Z T80.heap b1 k1 .char (6 : Int32) [(.int cc4), (.int cc16), (.int cc32), (.int cc48), (.int cc64), (.int (0 : Int32))] (.int (0 : Int32)) := Vn68.keep K80 nin0
  obtain ⟨cl83, Ar83, q83, S83, N83, H83, G83⟩ := id f82
  have hin83 : ¬ ((5 : Int32) < 0 ∨ cl83.slots.size ≤ ((5 : Int32)).toNatClampNeg) := inb_of S83 ⟨by decide, by decide⟩
  obtain ⟨T84, h84, X84, e84, W84, st84⟩ := stC X80 hx hZ80 rfl Ar83 (j := (5 : Int32)) hin83 (g := (mkF m 64 #[iv shape, .val (.long pp), .second, iv (shape &&& (7 : Int32)), rv b1, .unset, .unset, .unset, .unset, .unset, .unset] [(.int cc80), (.int (5 : Int32)), (.ref b1)])) rfl rfl (hb hby at_64)
  have CR85 : CHr Z consts_1 s.vm h0 T80.vm h84 := CR81.trans (CHr.wr W84 (Safe.arv hZ80.alike f82 (by decide)) CR81.1)
  have V84 : Arv Z h84 b1 k1 .char (6 : Int32) [(.int cc4), (.int cc16), (.int cc32), (.int cc48), (.int cc64), (.int (nar .char cc80))] (.int (0 : Int32)) := Arv.set Ar83 q83 S83 N83 H83 G83 (fits_nar_char _) W84 5 rfl (Nat.le_of_ble_eq_true rfl)
  have Vn84 : Arv Z h84 b1 k1 .char (6 : Int32) [(.int cc4), (.int cc16), (.int cc32), (.int cc48), (.int cc64), (.int cc80)] (.int (0 : Int32)) := by simpa only [own_nch xq80_hr] using V84
  have Nx84 := Fr.snoc X84 N80 fr1
  refine own_stW (T' := T84) (g' := (mkF m 65 #[iv shape, .val (.long pp), .second, iv (shape &&& (7 : Int32)), rv b1, .unset, .unset, .unset, .unset, .unset, .unset] [])) st84 ?_
  clear hin83 G83 H83 N83 S83 q83 Ar83 cl83 st84
  have f86 : Old Z n0 T80.heap := f79.keep K80 all0
  have f87 : Old Z n0 h84 := f86.wr W84 fr1
  exact seg_s65 h0 h84 n0 shape pp _ b1 k1 cc4 cc16 cc32 cc48 cc64 cc80 cz fm X84 hx hZs hZ80 hS80 (Nat.le_trans (Nat.le_refl _) (Nat.le_of_eq (Wr.size W84).symm)) CR85 hw hby hml howns hown80 hnm hret hlk e84 Nx84 f87 xq4_hr xq16_hr xq32_hr xq48_hr xq64_hr xq80_hr xq4_hn xq80_hn xq16_hn xq32_hn xq48_hn xq64_hn Vn84 fr1 SC hcz SF hfm
set_option maxRecDepth 65536 in
set_option maxHeartbeats 40000000 in
theorem comes_1 {Post : Tables → Env → Array Value → State → Outcome → State → Prop} (hpost : ∀ tb e args s v u, (limb_1_1.after args s (.returned v) u = true ∧ limb_1_2.after args s (.returned v) u = true ∧ True) → ReturnedEndW s (.returned v) u (Jvm.fieldLocs frame_1_writes args s ++ Jvm.arrayLocs frame_1_arrays args s ++ Jvm.staticLocs frame_1_statics s) 24 1152 → Post tb e args s (.returned v) u) :
    ArmFor flags0 classFile x code maxLocals ret World_1 tables_1 room_1 Calls_1 rest_1 Pre_1 Post := by
  intro l hfl _ _ p e ha hc hk s m args below hf hA hF happ hP
  obtain ⟨hcalls, hrest, hpre⟩ := hP
  obtain ⟨-, -, -, hnamed, -, -, -, hat⟩ := (Spec.applies_iff hf).mp happ
  obtain ⟨hg, hn⟩ := and_e (Cond.before_iff.mp (show (Jvm.Cond.and given_1 narrow_1).before args s = true from hpre))
  obtain ⟨u1a, u1b⟩ := and_e hg
  obtain ⟨u2a, u2b⟩ := and_e u1b
  obtain ⟨v0, v1, rfl⟩ : ∃ v0 v1 : Value, args = #[v0, v1] := by
    have hs : args.size = 2 := by simpa [Cond.value, given_1] using u1a
    obtain ⟨L⟩ := args
    match L, hs with
    | [v0, v1], _ => exact ⟨v0, v1, rfl⟩
  have hw := fun d (hd : d ∈ tables_1) => atoms_spec (ws := Jvm.Cond.code x code maxLocals ret :: tables_1) hat d (List.mem_cons_of_mem _ hd)
  have hfit : Fit s := fun {y c} hc i hi => by
    obtain ⟨ha, rfl⟩ := Array.getElem?_eq_some_iff.mp hc
    have q := List.all_eq_true.mp ((Array.all_eq_true_iff_forall_mem.mp hF) _ (Array.getElem_mem ha)) i (List.mem_range.mpr hi)
    simpa [Array.getElem?_eq_getElem hi] using q
  obtain ⟨hsets, hown0⟩ := atoms_of _ (rest_1_c_eq ▸ (show rest_1_c.before _ s = true from hrest))
  have hr0 := Cond.before_iff.mp hown0
  obtain ⟨i0, ei0⟩ := is_v u2a
  obtain rfl : v0 = (.int i0) := Option.some.inj ei0
  obtain ⟨i1, ei1⟩ := isL_v u2b
  obtain rfl : v1 = (.long i1) := Option.some.inj ei1
  obtain ⟨cz, evc⟩ := is_v (Cond.before_iff.mp (hsets _ (List.mem_of_getElem? (i := 1) rfl)))
  have SC := Sta.start evc (Or.inl (hsets _ (List.mem_of_getElem? (i := 0) rfl)))
  have hcw : Jvm.Lit.compactW.before _ s = true := (hsets _ (List.mem_of_getElem? (i := 2) rfl))
  have hcz : ¬ cz = (0 : Int32) := own_nz evc (Cond.before_iff.mp (hsets _ (List.mem_of_getElem? (i := 2) rfl)))
  obtain ⟨fm, evf, hfm⟩ := isR_v (Cond.before_iff.mp (hsets _ (List.mem_of_getElem? (i := 8) rfl)))
  have SF := Sta.start evf (Or.inl (hsets _ (List.mem_of_getElem? (i := 7) rfl)))
  have CH0 : CHv s consts_1 s.vm s.heap := CHv.start (own_EW hw) (fun q hq => hcalls.1 q hq) hcw (hw _ (List.mem_of_getElem? (i := 8) rfl)) (hw _ (List.mem_of_getElem? (i := 7) rfl))
  obtain ⟨n, o, h1, h2, h3, _, L, rfl, ⟨rfl, N⟩, -, hq⟩ := rm_0 l s _ hw tables_1 i0 i1 cz fm s.heap s.heap.size (Old.start s) SC hcz SF hfm p e ha hc hk s m _ below hf ((Spec.applies_iff_loose hf).mp happ).1 ⟨rfl, State.Warmed39.refl s, rfl, CH0, fun _ q => nomatch q⟩ trivial
  refine ⟨n, _, h1, h2, h3, hpost _ _ _ _ _ _ ⟨Cond.after_iff.mpr rfl, Cond.after_iff.mpr (eq_i res_at (Term.int_eval (1)) rfl), trivial⟩ ⟨hq.1, hq.2.1, hq.2.2.1, (hq.2.2.2.sift fun y hy => Or.inr (N y hy)).mono (by decide) (by decide)⟩⟩
theorem main_1_1 : Claimed_1_1 := comes_1 fun _ _ _ _ _ _ h hF => ⟨h.1, hF⟩
theorem main_1_2 : Claimed_1_2 := comes_1 fun _ _ _ _ _ _ h hF => ⟨h.2.1, hF⟩
end Jvm.Pilot.@@N@@
namespace Jvm.Pilot.@@N@@
open Jvm Jvm.ClassFile Sem Op Lib Jvm.Free Jvm.Stand Jvm.Pilot.@@N@@.Jvm.D
/-! MADE BY PROGRAM (witnessworld.py) out of the Statement's table words and the real class files: 23 classes; the members and pool entries that the words name. The judged class is class 1, her method 3. -/
namespace start1
open Jvm.ClassFile
def u (s : String) : CpInfo := .utf8 (stringToUtf16 s)
/-- a pool by its gaps: so many unusable entries, then the entry; so many at the end -/
def gap : Nat → List CpInfo → List CpInfo
  | 0, r => r
  | n + 1, r => .unusable :: gap n r
def poolList (es : List (Nat × CpInfo)) (last : Nat) : List CpInfo := es.foldr (fun e r => gap e.1 (e.2 :: r)) (gap last [])
def pool (es : List (Nat × CpInfo)) (last : Nat) : Array CpInfo := ⟨poolList es last⟩
def fileOf (pool : Array CpInfo) (this : Nat) (attrs : Array Attribute := #[]) (ms : Array MethodInfo := #[]) (fl : Nat := 33) (sup : Nat := 0) (ifs : Array Nat := #[]) (fds : Array FieldInfo := #[]) : ClassFile where
  minorVersion := 0
  majorVersion := 65
  constantPool := pool
  accessFlags := fl
  thisClass := this
  superClass := sup
  interfaces := ifs
  fields := fds
  methods := ms
  attributes := attrs
def plain (name : String) (sup : Option ClassId) : Class where
  name := name
  kind := .ordinary
  loader := none
  accessFlags := 33
  super := sup
  interfaces := #[]
  cf := none
  fields := #[]
  methods := #[]
  instanceTypes := #[]
  staticTypes := #[]
  resolved := #[]
  callSites := []
  init := .initialized
  statics := none
  mirror := none

def pool0 : Array CpInfo := pool [(5, u "<init>"), (0, u "()V"), (1, .class_ 10), (1, u "java/lang/Object")] 113

def k0c0 : Code := { maxStack := 0, maxLocals := 1, code := object_method_1_code, exceptionTable := #[], attributes := #[] }
def k0m0 : Method := { name := "<init>", desc := "()V", sig := { parameters := [], returnType := none }, accessFlags := 1, code := some k0c0 }
/-- java/lang/Object -/
def k0 : Class := { plain "java/lang/Object" none with
  accessFlags := 33
  interfaces := #[]
  cf := some (fileOf pool0 8 #[] #[{ accessFlags := 1, nameIndex := 5, descriptorIndex := 6, attributes := #[] }] 33 0 #[] #[])
  fields := #[]
  methods := #[k0m0]
  instanceTypes := #[]
  staticTypes := #[]
  resolved := Array.replicate 124 none
  statics := none }

def pool1 : Array CpInfo := pool [(2, .class_ 4), (1, u "java/lang/Object"), (0, u "<init>"), (0, u "()V"), (0, .string 8), (0, u "ABCDEFGHIJKLMNOPQRSTUVWXYZabcdefghijklmnopqrstuvwxyz0123456789-_.!~*'()"), (0, .long 255), (1, .long 71), (1, .methodref 14 15), (0, .class_ 16), (0, .nameAndType 17 18), (0, u "java/lang/String"), (0, u "charAt"), (0, u "(I)C"), (0, .methodref 20 21), (0, .class_ 22), (0, .nameAndType 23 24), (0, u "com/example/sheafgate/sheafgate/store/SetSpecsLastPartPinLaw"), (0, u "pick"), (0, u "(JI)C"), (0, .methodref 14 26), (0, .nameAndType 5 27), (0, u "([C)V"), (0, .methodref 29 30), (0, .class_ 31), (0, .nameAndType 32 33), (0, u "com/example/sheafgate/sheafgate/store/SetSpecs"), (0, u "lastPart"), (0, u "(Ljava/lang/String;)Ljava/lang/String;"), (0, .methodref 14 35), (0, .nameAndType 36 37), (0, u "length"), (0, u "()I"), (0, .methodref 20 39), (0, .nameAndType 40 41), (0, u "at"), (0, u "(Ljava/lang/String;[CII)Z"), (3, u "law"), (0, u "(IJ)Z")] 4

def k1m0 : Method := { name := "<init>", desc := "()V", sig := { parameters := [], returnType := none }, accessFlags := 1, code := none }
def k1c1 : Code := { maxStack := 5, maxLocals := 4, code := method_2_code, exceptionTable := #[], attributes := #[] }
def k1m1 : Method := { name := "pick", desc := "(JI)C", sig := { parameters := [.long, .int], returnType := some .char }, accessFlags := 10, code := some k1c1 }
def k1c2 : Code := { maxStack := 3, maxLocals := 4, code := method_3_code, exceptionTable := #[], attributes := #[] }
def k1m2 : Method := { name := "at", desc := "(Ljava/lang/String;[CII)Z", sig := { parameters := [(.object "java/lang/String"), (.array .char), .int, .int], returnType := some .boolean }, accessFlags := 10, code := some k1c2 }
def k1c3 : Code := { maxStack := 5, maxLocals := 11, code := code, exceptionTable := #[], attributes := #[] }
def k1m3 : Method := { name := "law", desc := "(IJ)Z", sig := { parameters := [.int, .long], returnType := some .boolean }, accessFlags := 9, code := some k1c3 }
/-- com/example/sheafgate/sheafgate/store/SetSpecsLastPartPinLaw -/
def k1 : Class := { plain "com/example/sheafgate/sheafgate/store/SetSpecsLastPartPinLaw" (some 0) with
  accessFlags := 49
  interfaces := #[]
  cf := some (fileOf pool1 20 #[] #[{ accessFlags := 1, nameIndex := 5, descriptorIndex := 6, attributes := #[] }, { accessFlags := 10, nameIndex := 23, descriptorIndex := 24, attributes := #[] }, { accessFlags := 10, nameIndex := 40, descriptorIndex := 41, attributes := #[] }, { accessFlags := 9, nameIndex := 45, descriptorIndex := 46, attributes := #[] }] 49 2 #[] #[])
  fields := #[]
  methods := #[k1m0, k1m1, k1m2, k1m3]
  instanceTypes := #[]
  staticTypes := #[]
  resolved := Array.replicate 51 none
  statics := none }

def pool2 : Array CpInfo := pool [(1, .class_ 2), (0, u "java/io/Serializable"), (0, .class_ 4), (0, u "java/lang/Object")] 2

/-- java/io/Serializable -/
def k2 : Class := { plain "java/io/Serializable" (some 0) with
  accessFlags := 1537
  interfaces := #[]
  cf := some (fileOf pool2 1 #[] #[] 1537 3 #[] #[])
  fields := #[]
  methods := #[]
  instanceTypes := #[]
  staticTypes := #[]
  resolved := Array.replicate 7 none
  statics := none }

def pool3 : Array CpInfo := pool [(1, .class_ 2), (0, u "java/lang/Comparable"), (0, .class_ 4), (0, u "java/lang/Object")] 7

/-- java/lang/Comparable -/
def k3 : Class := { plain "java/lang/Comparable" (some 0) with
  accessFlags := 1537
  interfaces := #[]
  cf := some (fileOf pool3 1 #[] #[] 1537 3 #[] #[])
  fields := #[]
  methods := #[]
  instanceTypes := #[]
  staticTypes := #[]
  resolved := Array.replicate 12 none
  statics := none }

def pool4 : Array CpInfo := pool [(2, .class_ 4), (1, u "java/lang/CharSequence"), (42, .class_ 48), (0, u "java/lang/CharSequence$1CodePointIterator"), (10, .class_ 60), (0, u "java/lang/CharSequence$1CharIterator"), (5, .class_ 67), (0, u "java/lang/Object")] 63

/-- java/lang/CharSequence -/
def k4 : Class := { plain "java/lang/CharSequence" (some 0) with
  accessFlags := 1537
  interfaces := #[]
  cf := some (fileOf pool4 2 #[.nestMembers #[47, 59]] #[] 1537 66 #[] #[])
  fields := #[]
  methods := #[]
  instanceTypes := #[]
  staticTypes := #[]
  resolved := Array.replicate 131 none
  statics := none }

def pool5 : Array CpInfo := pool [(1, .class_ 2), (0, u "java/lang/constant/Constable"), (0, .class_ 4), (0, u "java/lang/Object")] 6

/-- java/lang/constant/Constable -/
def k5 : Class := { plain "java/lang/constant/Constable" (some 0) with
  accessFlags := 1537
  interfaces := #[]
  cf := some (fileOf pool5 1 #[] #[] 1537 3 #[] #[])
  fields := #[]
  methods := #[]
  instanceTypes := #[]
  staticTypes := #[]
  resolved := Array.replicate 11 none
  statics := none }

def pool6 : Array CpInfo := pool [(1, .class_ 2), (0, u "java/lang/constant/ConstantDesc"), (0, .class_ 4), (0, u "java/lang/Object")] 32

/-- java/lang/constant/ConstantDesc -/
def k6 : Class := { plain "java/lang/constant/ConstantDesc" (some 0) with
  accessFlags := 1537
  interfaces := #[]
  cf := some (fileOf pool6 1 #[] #[] 1537 3 #[] #[])
  fields := #[]
  methods := #[]
  instanceTypes := #[]
  staticTypes := #[]
  resolved := Array.replicate 37 none
  statics := none }

def pool7 : Array CpInfo := pool [(1, .methodref 2 3), (0, .class_ 4), (0, .nameAndType 5 6), (0, u "java/lang/Object"), (0, u "<init>"), (0, u "()V"), (2, .fieldref 10 11), (0, .class_ 12), (0, .nameAndType 13 14), (0, u "java/lang/String"), (0, u "value"), (0, u "[B"), (0, .fieldref 10 16), (0, .nameAndType 17 18), (0, u "coder"), (0, u "B"), (2, u "hash"), (0, u "I"), (2, u "hashIsZero"), (0, u "Z"), (0, .methodref 10 28), (0, .nameAndType 5 29), (0, u "([CIILjava/lang/Void;)V"), (8, .fieldref 10 39), (0, .nameAndType 40 26), (0, u "COMPACT_STRINGS"), (1, .class_ 44), (1, u "java/lang/StringUTF16"), (0, u "compress"), (1, .methodref 42 48), (0, .nameAndType 49 50), (0, u "coderFromArrayLen"), (0, u "([BI)B"), (46, u "([BII)I"), (9, .class_ 109), (1, u "java/lang/StringLatin1"), (32, u "()Z"), (34, .methodref 42 178), (0, .nameAndType 45 179), (0, u "([CII)[B"), (31, u "([BB)V"), (122, u "()I"), (0, .methodref 10 336), (0, .nameAndType 17 337), (0, u "()B"), (25, u "([BI)C"), (27, u "(II)V"), (35, u "(I)C"), (64, .methodref 10 493), (0, .nameAndType 494 142), (0, u "isLatin1"), (0, .methodref 107 496), (0, .nameAndType 497 363), (0, u "charAt"), (3, u "checkIndex"), (3, .methodref 10 506), (0, .nameAndType 507 334), (0, u "length"), (5, u "checkFromToIndex"), (7, .methodref 10 522), (0, .nameAndType 523 524), (0, u "checkBoundsBeginEnd"), (0, u "(III)V"), (50, .class_ 576), (0, u "java/lang/CharSequence"), (22, u "CASE_INSENSITIVE_ORDER"), (0, u "Ljava/util/Comparator;"), (35, u "(II)I"), (4, .methodref 10 642), (0, .nameAndType 643 636), (0, u "lastIndexOf"), (0, .methodref 107 645), (0, .nameAndType 643 97), (35, .methodref 10 682), (0, .nameAndType 683 684), (0, u "substring"), (0, u "(II)Ljava/lang/String;"), (0, .methodref 107 686), (0, .nameAndType 687 688), (0, u "newString"), (0, u "([BII)Ljava/lang/String;"), (76, u "(I)I"), (126, u "(I)Ljava/lang/String;"), (117, u "([C)V"), (42, .fieldref 1054 1055), (0, .class_ 1056), (0, .nameAndType 1057 1058), (0, u "jdk/internal/util/Preconditions"), (0, u "SIOOBE_FORMATTER"), (0, u "Ljava/util/function/BiFunction;"), (0, .methodref 1054 1060), (0, .nameAndType 501 1061), (0, u "(IILjava/util/function/BiFunction;)I"), (0, .methodref 1054 1063), (0, .nameAndType 513 1064), (0, u "(IIILjava/util/function/BiFunction;)I"), (36, u "serialPersistentFields"), (0, u "[Ljava/io/ObjectStreamField;"), (0, .class_ 1104), (0, u "java/lang/String$CaseInsensitiveComparator"), (1, .class_ 1107), (0, u "java/io/Serializable"), (0, .class_ 1109), (0, u "java/lang/Comparable"), (0, .class_ 1111), (0, u "java/lang/constant/Constable"), (0, .class_ 1113), (0, u "java/lang/constant/ConstantDesc"), (2, u "serialVersionUID"), (0, u "J"), (3, u "REPL"), (0, u "C"), (2, u "LATIN1"), (1, u "UTF16")] 323

def k7m0 : Method := { name := "<init>", desc := "()V", sig := { parameters := [], returnType := none }, accessFlags := 1, code := none }
def k7c1 : Code := { maxStack := 5, maxLocals := 2, code := jdk_42_method_3_code, exceptionTable := #[], attributes := #[] }
def k7m1 : Method := { name := "<init>", desc := "([C)V", sig := { parameters := [(.array .char)], returnType := none }, accessFlags := 1, code := some k7c1 }
def k7c2 : Code := { maxStack := 2, maxLocals := 1, code := jdk_42_method_54_code, exceptionTable := #[], attributes := #[] }
def k7m2 : Method := { name := "length", desc := "()I", sig := { parameters := [], returnType := some .int }, accessFlags := 1, code := some k7c2 }
def k7c3 : Code := { maxStack := 2, maxLocals := 2, code := jdk_42_method_56_code, exceptionTable := #[], attributes := #[] }
def k7m3 : Method := { name := "charAt", desc := "(I)C", sig := { parameters := [.int], returnType := some .char }, accessFlags := 1, code := some k7c3 }
def k7c4 : Code := { maxStack := 4, maxLocals := 2, code := jdk_42_method_82_code, exceptionTable := #[], attributes := #[] }
def k7m4 : Method := { name := "lastIndexOf", desc := "(I)I", sig := { parameters := [.int], returnType := some .int }, accessFlags := 1, code := some k7c4 }
def k7c5 : Code := { maxStack := 3, maxLocals := 3, code := jdk_42_method_83_code, exceptionTable := #[], attributes := #[] }
def k7m5 : Method := { name := "lastIndexOf", desc := "(II)I", sig := { parameters := [.int, .int], returnType := some .int }, accessFlags := 1, code := some k7c5 }
def k7c6 : Code := { maxStack := 3, maxLocals := 2, code := jdk_42_method_91_code, exceptionTable := #[], attributes := #[] }
def k7m6 : Method := { name := "substring", desc := "(I)Ljava/lang/String;", sig := { parameters := [.int], returnType := some (.object "java/lang/String") }, accessFlags := 1, code := some k7c6 }
def k7c7 : Code := { maxStack := 3, maxLocals := 5, code := jdk_42_method_92_code, exceptionTable := #[], attributes := #[] }
def k7m7 : Method := { name := "substring", desc := "(II)Ljava/lang/String;", sig := { parameters := [.int, .int], returnType := some (.object "java/lang/String") }, accessFlags := 1, code := some k7c7 }
def k7c8 : Code := { maxStack := 4, maxLocals := 6, code := jdk_42_method_149_code, exceptionTable := #[], attributes := #[] }
def k7m8 : Method := { name := "<init>", desc := "([CIILjava/lang/Void;)V", sig := { parameters := [(.array .char), .int, .int, (.object "java/lang/Void")], returnType := none }, accessFlags := 2, code := some k7c8 }
def k7c9 : Code := { maxStack := 2, maxLocals := 3, code := jdk_42_method_151_code, exceptionTable := #[], attributes := #[] }
def k7m9 : Method := { name := "<init>", desc := "([BB)V", sig := { parameters := [(.array .byte), .byte], returnType := none }, accessFlags := 0, code := some k7c9 }
def k7c10 : Code := { maxStack := 1, maxLocals := 1, code := jdk_42_method_152_code, exceptionTable := #[], attributes := #[] }
def k7m10 : Method := { name := "coder", desc := "()B", sig := { parameters := [], returnType := some .byte }, accessFlags := 0, code := some k7c10 }
def k7c11 : Code := { maxStack := 1, maxLocals := 1, code := jdk_42_method_154_code, exceptionTable := #[], attributes := #[] }
def k7m11 : Method := { name := "isLatin1", desc := "()Z", sig := { parameters := [], returnType := some .boolean }, accessFlags := 0, code := some k7c11 }
def k7c12 : Code := { maxStack := 3, maxLocals := 2, code := jdk_42_method_155_code, exceptionTable := #[], attributes := #[] }
def k7m12 : Method := { name := "checkIndex", desc := "(II)V", sig := { parameters := [.int, .int], returnType := none }, accessFlags := 8, code := some k7c12 }
def k7c13 : Code := { maxStack := 4, maxLocals := 3, code := jdk_42_method_158_code, exceptionTable := #[], attributes := #[] }
def k7m13 : Method := { name := "checkBoundsBeginEnd", desc := "(III)V", sig := { parameters := [.int, .int, .int], returnType := none }, accessFlags := 8, code := some k7c13 }
/-- java/lang/String -/
def k7 : Class := { plain "java/lang/String" (some 0) with
  accessFlags := 49
  interfaces := #[2, 3, 4, 5, 6]
  cf := some (fileOf pool7 10 #[.nestMembers #[1103]] #[{ accessFlags := 1, nameIndex := 5, descriptorIndex := 6, attributes := #[] }, { accessFlags := 1, nameIndex := 5, descriptorIndex := 1010, attributes := #[] }, { accessFlags := 1, nameIndex := 507, descriptorIndex := 334, attributes := #[] }, { accessFlags := 1, nameIndex := 497, descriptorIndex := 427, attributes := #[] }, { accessFlags := 1, nameIndex := 643, descriptorIndex := 765, attributes := #[] }, { accessFlags := 1, nameIndex := 643, descriptorIndex := 636, attributes := #[] }, { accessFlags := 1, nameIndex := 683, descriptorIndex := 892, attributes := #[] }, { accessFlags := 1, nameIndex := 683, descriptorIndex := 684, attributes := #[] }, { accessFlags := 2, nameIndex := 5, descriptorIndex := 29, attributes := #[] }, { accessFlags := 0, nameIndex := 5, descriptorIndex := 211, attributes := #[] }, { accessFlags := 0, nameIndex := 17, descriptorIndex := 337, attributes := #[] }, { accessFlags := 0, nameIndex := 494, descriptorIndex := 142, attributes := #[] }, { accessFlags := 8, nameIndex := 501, descriptorIndex := 391, attributes := #[] }, { accessFlags := 8, nameIndex := 523, descriptorIndex := 524, attributes := #[] }] 49 2 #[1106, 1108, 575, 1110, 1112] #[{ accessFlags := 18, nameIndex := 13, descriptorIndex := 14, attributes := #[] }, { accessFlags := 18, nameIndex := 17, descriptorIndex := 18, attributes := #[] }, { accessFlags := 2, nameIndex := 21, descriptorIndex := 22, attributes := #[] }, { accessFlags := 2, nameIndex := 25, descriptorIndex := 26, attributes := #[] }, { accessFlags := 26, nameIndex := 1116, descriptorIndex := 1117, attributes := #[] }, { accessFlags := 24, nameIndex := 40, descriptorIndex := 26, attributes := #[] }, { accessFlags := 26, nameIndex := 1101, descriptorIndex := 1102, attributes := #[] }, { accessFlags := 26, nameIndex := 1121, descriptorIndex := 1122, attributes := #[] }, { accessFlags := 25, nameIndex := 599, descriptorIndex := 600, attributes := #[] }, { accessFlags := 24, nameIndex := 1125, descriptorIndex := 18, attributes := #[] }, { accessFlags := 24, nameIndex := 1127, descriptorIndex := 18, attributes := #[] }])
  fields := #[{ name := "value", type := (.array .byte), accessFlags := 18, slot := 0, constantValue := 0 }, { name := "coder", type := .byte, accessFlags := 18, slot := 1, constantValue := 0 }, { name := "hash", type := .int, accessFlags := 2, slot := 2, constantValue := 0 }, { name := "hashIsZero", type := .boolean, accessFlags := 2, slot := 3, constantValue := 0 }, { name := "serialVersionUID", type := .long, accessFlags := 26, slot := 0, constantValue := 0 }, { name := "COMPACT_STRINGS", type := .boolean, accessFlags := 24, slot := 1, constantValue := 0 }, { name := "serialPersistentFields", type := (.array (.object "java/io/ObjectStreamField")), accessFlags := 26, slot := 2, constantValue := 0 }, { name := "REPL", type := .char, accessFlags := 26, slot := 3, constantValue := 0 }, { name := "CASE_INSENSITIVE_ORDER", type := (.object "java/util/Comparator"), accessFlags := 25, slot := 4, constantValue := 0 }, { name := "LATIN1", type := .byte, accessFlags := 24, slot := 5, constantValue := 0 }, { name := "UTF16", type := .byte, accessFlags := 24, slot := 6, constantValue := 0 }]
  methods := #[k7m0, k7m1, k7m2, k7m3, k7m4, k7m5, k7m6, k7m7, k7m8, k7m9, k7m10, k7m11, k7m12, k7m13]
  instanceTypes := #[(.array .byte), .byte, .int, .boolean]
  staticTypes := #[.long, .boolean, (.array (.object "java/io/ObjectStreamField")), .char, (.object "java/util/Comparator"), .byte, .byte]
  resolved := Array.replicate 1451 none
  statics := some 0 }

def pool8 : Array CpInfo := pool [(1, .class_ 2), (0, u "java/lang/String"), (1, .class_ 6), (1, u "java/lang/Object"), (0, u "<init>"), (0, u "()V"), (0, .methodref 1 10), (0, .nameAndType 11 12), (0, u "checkIndex"), (0, u "(II)V"), (1, .class_ 16), (1, u "java/lang/StringLatin1"), (21, .methodref 39 40), (0, .class_ 41), (0, .nameAndType 42 43), (0, u "java/lang/Math"), (0, u "min"), (0, u "(II)I"), (9, u "([BI)C"), (34, .methodref 14 89), (0, .nameAndType 90 91), (0, u "canEncode"), (0, u "(I)Z"), (20, .methodref 1 113), (0, .nameAndType 7 114), (0, u "([BB)V"), (6, u "$assertionsDisabled"), (0, u "Z"), (8, .class_ 133), (1, u "java/util/Arrays"), (62, u "newString"), (0, u "([BII)Ljava/lang/String;"), (23, .class_ 223), (1, u "java/lang/StringLatin1$LinesSpliterator"), (8, .methodref 131 233), (0, .nameAndType 234 235), (0, u "copyOfRange"), (0, u "([BII)[B"), (16, u "charAt"), (8, u "([BII)I"), (47, u "lastIndexOf"), (80, .class_ 391), (0, u "java/lang/StringLatin1$CharsSpliterator")] 3

def k8m0 : Method := { name := "<init>", desc := "()V", sig := { parameters := [], returnType := none }, accessFlags := 0, code := none }
def k8c1 : Code := { maxStack := 2, maxLocals := 2, code := jdk_43_method_2_code, exceptionTable := #[], attributes := #[] }
def k8m1 : Method := { name := "charAt", desc := "([BI)C", sig := { parameters := [(.array .byte), .int], returnType := some .char }, accessFlags := 9, code := some k8c1 }
def k8c2 : Code := { maxStack := 2, maxLocals := 1, code := jdk_43_method_4_code, exceptionTable := #[], attributes := #[] }
def k8m2 : Method := { name := "canEncode", desc := "(I)Z", sig := { parameters := [.int], returnType := some .boolean }, accessFlags := 9, code := some k8c2 }
def k8c3 : Code := { maxStack := 3, maxLocals := 4, code := jdk_43_method_27_code, exceptionTable := #[], attributes := #[] }
def k8m3 : Method := { name := "lastIndexOf", desc := "([BII)I", sig := { parameters := [(.array .byte), .int, .int], returnType := some .int }, accessFlags := 9, code := some k8c3 }
def k8c4 : Code := { maxStack := 6, maxLocals := 3, code := jdk_43_method_47_code, exceptionTable := #[], attributes := #[] }
def k8m4 : Method := { name := "newString", desc := "([BII)Ljava/lang/String;", sig := { parameters := [(.array .byte), .int, .int], returnType := some (.object "java/lang/String") }, accessFlags := 9, code := some k8c4 }
/-- java/lang/StringLatin1 -/
def k8 : Class := { plain "java/lang/StringLatin1" (some 0) with
  accessFlags := 48
  interfaces := #[]
  cf := some (fileOf pool8 14 #[.nestMembers #[390, 221]] #[{ accessFlags := 0, nameIndex := 7, descriptorIndex := 8, attributes := #[] }, { accessFlags := 9, nameIndex := 252, descriptorIndex := 53, attributes := #[] }, { accessFlags := 9, nameIndex := 90, descriptorIndex := 91, attributes := #[] }, { accessFlags := 9, nameIndex := 309, descriptorIndex := 261, attributes := #[] }, { accessFlags := 9, nameIndex := 196, descriptorIndex := 197, attributes := #[] }] 48 4 #[] #[{ accessFlags := 4120, nameIndex := 121, descriptorIndex := 122, attributes := #[] }])
  fields := #[{ name := "$assertionsDisabled", type := .boolean, accessFlags := 4120, slot := 0, constantValue := 0 }]
  methods := #[k8m0, k8m1, k8m2, k8m3, k8m4]
  instanceTypes := #[]
  staticTypes := #[.boolean]
  resolved := Array.replicate 395 none
  statics := none }

def pool9 : Array CpInfo := pool [(2, .class_ 4), (1, u "java/lang/Object"), (0, u "<init>"), (0, u "()V"), (17, .class_ 26), (1, u "jdk/internal/util/Preconditions"), (6, u "checkIndex"), (13, u "checkFromToIndex"), (7, .class_ 56), (0, u "jdk/internal/util/Preconditions$4"), (57, .class_ 115), (0, u "jdk/internal/util/Preconditions$1"), (7, u "SIOOBE_FORMATTER"), (0, u "Ljava/util/function/BiFunction;"), (0, .class_ 126), (0, u "jdk/internal/util/Preconditions$2"), (3, u "AIOOBE_FORMATTER"), (0, .class_ 132), (0, u "jdk/internal/util/Preconditions$3"), (3, u "IOOBE_FORMATTER"), (41, u "(IILjava/util/function/BiFunction;)I"), (4, u "(IIILjava/util/function/BiFunction;)I")] 10

def k9m0 : Method := { name := "<init>", desc := "()V", sig := { parameters := [], returnType := none }, accessFlags := 1, code := none }
def k9c1 : Code := { maxStack := 3, maxLocals := 3, code := jdk_41_method_11_code, exceptionTable := #[], attributes := #[] }
def k9m1 : Method := { name := "checkIndex", desc := "(IILjava/util/function/BiFunction;)I", sig := { parameters := [.int, .int, (.object "java/util/function/BiFunction")], returnType := some .int }, accessFlags := 9, code := some k9c1 }
def k9c2 : Code := { maxStack := 4, maxLocals := 4, code := jdk_41_method_12_code, exceptionTable := #[], attributes := #[] }
def k9m2 : Method := { name := "checkFromToIndex", desc := "(IIILjava/util/function/BiFunction;)I", sig := { parameters := [.int, .int, .int, (.object "java/util/function/BiFunction")], returnType := some .int }, accessFlags := 9, code := some k9c2 }
/-- jdk/internal/util/Preconditions -/
def k9 : Class := { plain "jdk/internal/util/Preconditions" (some 0) with
  accessFlags := 33
  interfaces := #[]
  cf := some (fileOf pool9 24 #[.nestMembers #[55, 131, 125, 114]] #[{ accessFlags := 1, nameIndex := 5, descriptorIndex := 6, attributes := #[] }, { accessFlags := 9, nameIndex := 33, descriptorIndex := 178, attributes := #[] }, { accessFlags := 9, nameIndex := 47, descriptorIndex := 183, attributes := #[] }] 33 2 #[] #[{ accessFlags := 25, nameIndex := 123, descriptorIndex := 124, attributes := #[] }, { accessFlags := 25, nameIndex := 130, descriptorIndex := 124, attributes := #[] }, { accessFlags := 25, nameIndex := 136, descriptorIndex := 124, attributes := #[] }])
  fields := #[{ name := "SIOOBE_FORMATTER", type := (.object "java/util/function/BiFunction"), accessFlags := 25, slot := 0, constantValue := 0 }, { name := "AIOOBE_FORMATTER", type := (.object "java/util/function/BiFunction"), accessFlags := 25, slot := 1, constantValue := 0 }, { name := "IOOBE_FORMATTER", type := (.object "java/util/function/BiFunction"), accessFlags := 25, slot := 2, constantValue := 0 }]
  methods := #[k9m0, k9m1, k9m2]
  instanceTypes := #[]
  staticTypes := #[(.object "java/util/function/BiFunction"), (.object "java/util/function/BiFunction"), (.object "java/util/function/BiFunction")]
  resolved := Array.replicate 194 none
  statics := some 1 }

def pool10 : Array CpInfo := pool [(6, .class_ 8), (1, u "java/lang/Object"), (0, u "<init>"), (0, u "()V"), (1, .class_ 14), (1, u "java/lang/StringUTF16"), (31, u "$assertionsDisabled"), (0, u "Z"), (13, u "HI_BYTE_SHIFT"), (0, u "I"), (2, u "LO_BYTE_SHIFT"), (49, .methodref 12 116), (0, .nameAndType 117 118), (0, u "compress"), (0, u "([CI[BII)I"), (3, u "([CII)[B"), (138, u "coderFromArrayLen"), (0, u "([BI)B"), (106, .class_ 371), (1, u "java/lang/StringUTF16$LinesSpliterator"), (58, u "MAX_LENGTH"), (196, .class_ 628), (0, u "java/lang/StringUTF16$CodePointsSpliterator"), (0, .class_ 630), (0, u "java/lang/StringUTF16$CharsSpliterator")] 4

def k10m0 : Method := { name := "<init>", desc := "()V", sig := { parameters := [], returnType := none }, accessFlags := 0, code := none }
def k10c1 : Code := { maxStack := 2, maxLocals := 2, code := jdk_52_method_15_code, exceptionTable := #[], attributes := #[] }
def k10m1 : Method := { name := "coderFromArrayLen", desc := "([BI)B", sig := { parameters := [(.array .byte), .int], returnType := some .byte }, accessFlags := 8, code := some k10c1 }
def k10c2 : Code := { maxStack := 5, maxLocals := 6, code := jdk_52_method_16_code, exceptionTable := #[], attributes := #[] }
def k10m2 : Method := { name := "compress", desc := "([CII)[B", sig := { parameters := [(.array .char), .int, .int], returnType := some (.array .byte) }, accessFlags := 9, code := some k10c2 }
def k10c3 : Code := { maxStack := 3, maxLocals := 7, code := jdk_52_method_21_code, exceptionTable := #[], attributes := #[] }
def k10m3 : Method := { name := "compress", desc := "([CI[BII)I", sig := { parameters := [(.array .char), .int, (.array .byte), .int, .int], returnType := some .int }, accessFlags := 9, code := some k10c3 }
/-- java/lang/StringUTF16 -/
def k10 : Class := { plain "java/lang/StringUTF16" (some 0) with
  accessFlags := 48
  interfaces := #[]
  cf := some (fileOf pool10 12 #[.nestMembers #[627, 629, 369]] #[{ accessFlags := 0, nameIndex := 9, descriptorIndex := 10, attributes := #[] }, { accessFlags := 8, nameIndex := 261, descriptorIndex := 262, attributes := #[] }, { accessFlags := 9, nameIndex := 117, descriptorIndex := 122, attributes := #[] }, { accessFlags := 9, nameIndex := 117, descriptorIndex := 118, attributes := #[] }] 48 6 #[] #[{ accessFlags := 26, nameIndex := 61, descriptorIndex := 62, attributes := #[] }, { accessFlags := 26, nameIndex := 65, descriptorIndex := 62, attributes := #[] }, { accessFlags := 24, nameIndex := 430, descriptorIndex := 62, attributes := #[] }, { accessFlags := 4120, nameIndex := 46, descriptorIndex := 47, attributes := #[] }])
  fields := #[{ name := "HI_BYTE_SHIFT", type := .int, accessFlags := 26, slot := 0, constantValue := 0 }, { name := "LO_BYTE_SHIFT", type := .int, accessFlags := 26, slot := 1, constantValue := 0 }, { name := "MAX_LENGTH", type := .int, accessFlags := 24, slot := 2, constantValue := 0 }, { name := "$assertionsDisabled", type := .boolean, accessFlags := 4120, slot := 3, constantValue := 0 }]
  methods := #[k10m0, k10m1, k10m2, k10m3]
  instanceTypes := #[]
  staticTypes := #[.int, .int, .int, .boolean]
  resolved := Array.replicate 635 none
  statics := none }

def pool11 : Array CpInfo := pool [(2, .class_ 4), (1, u "java/lang/Object"), (0, u "<init>"), (0, u "()V"), (1, .class_ 10), (1, u "com/example/sheafgate/sheafgate/store/SetSpecs"), (0, u "SET_SPEC"), (0, u "Ljava/util/regex/Pattern;"), (14, u "PART_PATTERN"), (1, .class_ 31), (1, u "java/lang/String"), (12, u "(I)I"), (2, u "substring"), (13, u "(Ljava/lang/String;)Ljava/lang/String;"), (5, .methodref 29 68), (0, .nameAndType 69 44), (0, u "lastIndexOf"), (0, .methodref 29 71), (0, .nameAndType 47 72), (0, u "(I)Ljava/lang/String;"), (8, u "PART_CHARACTERS"), (0, u "Ljava/lang/String;"), (3, u "PART"), (0, u "SEPARATOR"), (0, u "C"), (14, u "lastPart")] 20

def k11m0 : Method := { name := "<init>", desc := "()V", sig := { parameters := [], returnType := none }, accessFlags := 2, code := none }
def k11c1 : Code := { maxStack := 3, maxLocals := 1, code := prog_26_method_7_code, exceptionTable := #[], attributes := #[] }
def k11m1 : Method := { name := "lastPart", desc := "(Ljava/lang/String;)Ljava/lang/String;", sig := { parameters := [(.object "java/lang/String")], returnType := some (.object "java/lang/String") }, accessFlags := 9, code := some k11c1 }
/-- com/example/sheafgate/sheafgate/store/SetSpecs -/
def k11 : Class := { plain "com/example/sheafgate/sheafgate/store/SetSpecs" (some 0) with
  accessFlags := 49
  interfaces := #[]
  cf := some (fileOf pool11 8 #[] #[{ accessFlags := 2, nameIndex := 5, descriptorIndex := 6, attributes := #[] }, { accessFlags := 9, nameIndex := 103, descriptorIndex := 61, attributes := #[] }] 49 2 #[] #[{ accessFlags := 25, nameIndex := 81, descriptorIndex := 82, attributes := #[] }, { accessFlags := 26, nameIndex := 86, descriptorIndex := 82, attributes := #[] }, { accessFlags := 26, nameIndex := 27, descriptorIndex := 12, attributes := #[] }, { accessFlags := 26, nameIndex := 11, descriptorIndex := 12, attributes := #[] }, { accessFlags := 26, nameIndex := 87, descriptorIndex := 88, attributes := #[] }])
  fields := #[{ name := "PART_CHARACTERS", type := (.object "java/lang/String"), accessFlags := 25, slot := 0, constantValue := 0 }, { name := "PART", type := (.object "java/lang/String"), accessFlags := 26, slot := 1, constantValue := 0 }, { name := "PART_PATTERN", type := (.object "java/util/regex/Pattern"), accessFlags := 26, slot := 2, constantValue := 0 }, { name := "SET_SPEC", type := (.object "java/util/regex/Pattern"), accessFlags := 26, slot := 3, constantValue := 0 }, { name := "SEPARATOR", type := .char, accessFlags := 26, slot := 4, constantValue := 0 }]
  methods := #[k11m0, k11m1]
  instanceTypes := #[]
  staticTypes := #[(.object "java/lang/String"), (.object "java/lang/String"), (.object "java/util/regex/Pattern"), (.object "java/util/regex/Pattern"), .char]
  resolved := Array.replicate 124 none
  statics := none }

def pool12 : Array CpInfo := pool [(1, .class_ 2), (0, u "java/lang/Math"), (1, .class_ 6), (1, u "java/lang/Object"), (0, u "<init>"), (0, u "()V"), (89, .class_ 100), (1, u "java/lang/Math$RandomNumberGeneratorHolder"), (71, u "negativeZeroFloatBits"), (0, u "J"), (2, u "negativeZeroDoubleBits"), (24, u "min"), (43, u "$assertionsDisabled"), (0, u "Z"), (88, u "(II)I"), (2, u "twoToTheDoubleScaleDown"), (0, u "D"), (4, u "twoToTheDoubleScaleUp"), (9, u "E"), (3, u "PI"), (2, u "TAU"), (2, u "DEGREES_TO_RADIANS"), (0, u "RADIANS_TO_DEGREES")] 94

def k12m0 : Method := { name := "<init>", desc := "()V", sig := { parameters := [], returnType := none }, accessFlags := 2, code := none }
def k12c1 : Code := { maxStack := 2, maxLocals := 2, code := jdk_29_method_69_code, exceptionTable := #[], attributes := #[] }
def k12m1 : Method := { name := "min", desc := "(II)I", sig := { parameters := [.int, .int], returnType := some .int }, accessFlags := 9, code := some k12c1 }
/-- java/lang/Math -/
def k12 : Class := { plain "java/lang/Math" (some 0) with
  accessFlags := 49
  interfaces := #[]
  cf := some (fileOf pool12 1 #[.nestMembers #[98]] #[{ accessFlags := 2, nameIndex := 7, descriptorIndex := 8, attributes := #[] }, { accessFlags := 9, nameIndex := 201, descriptorIndex := 335, attributes := #[] }] 49 4 #[] #[{ accessFlags := 25, nameIndex := 354, descriptorIndex := 339, attributes := #[] }, { accessFlags := 25, nameIndex := 358, descriptorIndex := 339, attributes := #[] }, { accessFlags := 25, nameIndex := 361, descriptorIndex := 339, attributes := #[] }, { accessFlags := 26, nameIndex := 364, descriptorIndex := 339, attributes := #[] }, { accessFlags := 26, nameIndex := 365, descriptorIndex := 339, attributes := #[] }, { accessFlags := 26, nameIndex := 172, descriptorIndex := 173, attributes := #[] }, { accessFlags := 26, nameIndex := 176, descriptorIndex := 173, attributes := #[] }, { accessFlags := 8, nameIndex := 344, descriptorIndex := 339, attributes := #[] }, { accessFlags := 8, nameIndex := 338, descriptorIndex := 339, attributes := #[] }, { accessFlags := 4120, nameIndex := 245, descriptorIndex := 246, attributes := #[] }])
  fields := #[{ name := "E", type := .double, accessFlags := 25, slot := 0, constantValue := 0 }, { name := "PI", type := .double, accessFlags := 25, slot := 1, constantValue := 0 }, { name := "TAU", type := .double, accessFlags := 25, slot := 2, constantValue := 0 }, { name := "DEGREES_TO_RADIANS", type := .double, accessFlags := 26, slot := 3, constantValue := 0 }, { name := "RADIANS_TO_DEGREES", type := .double, accessFlags := 26, slot := 4, constantValue := 0 }, { name := "negativeZeroFloatBits", type := .long, accessFlags := 26, slot := 5, constantValue := 0 }, { name := "negativeZeroDoubleBits", type := .long, accessFlags := 26, slot := 6, constantValue := 0 }, { name := "twoToTheDoubleScaleUp", type := .double, accessFlags := 8, slot := 7, constantValue := 0 }, { name := "twoToTheDoubleScaleDown", type := .double, accessFlags := 8, slot := 8, constantValue := 0 }, { name := "$assertionsDisabled", type := .boolean, accessFlags := 4120, slot := 9, constantValue := 0 }]
  methods := #[k12m0, k12m1]
  instanceTypes := #[]
  staticTypes := #[.double, .double, .double, .double, .double, .long, .long, .double, .double, .boolean]
  resolved := Array.replicate 460 none
  statics := none }

def pool13 : Array CpInfo := pool [(2, .class_ 4), (1, u "java/lang/Object"), (0, u "<init>"), (0, u "()V"), (7, .class_ 16), (1, u "java/util/Arrays"), (57, .class_ 76), (1, u "java/util/Arrays$NaturalOrder"), (36, .class_ 115), (1, u "java/util/Arrays$LegacyMergeSort"), (1, u "Z"), (21, u "copyOfRange"), (10, .methodref 151 152), (0, .class_ 153), (0, .nameAndType 154 155), (0, u "java/lang/System"), (0, u "arraycopy"), (0, u "(Ljava/lang/Object;ILjava/lang/Object;II)V"), (148, .methodref 305 306), (0, .class_ 307), (0, .nameAndType 308 309), (0, u "java/lang/Math"), (0, u "min"), (0, u "(II)I"), (29, .methodref 14 340), (0, .nameAndType 341 342), (0, u "copyOfRangeByte"), (0, u "([BII)[B"), (0, .methodref 14 344), (0, .nameAndType 345 346), (0, u "checkLength"), (0, u "(II)V"), (28, .class_ 376), (0, u "java/util/Arrays$ArrayList"), (68, u "$assertionsDisabled"), (269, u "MIN_ARRAY_SORT_GRAN"), (0, u "I"), (2, u "INSERTIONSORT_THRESHOLD"), (255, .class_ 976), (0, u "java/util/Arrays$ArrayItr")] 52

def k13m0 : Method := { name := "<init>", desc := "()V", sig := { parameters := [], returnType := none }, accessFlags := 2, code := none }
def k13c1 : Code := { maxStack := 4, maxLocals := 2, code := jdk_65_method_131_code, exceptionTable := #[], attributes := #[] }
def k13m1 : Method := { name := "checkLength", desc := "(II)V", sig := { parameters := [.int, .int], returnType := none }, accessFlags := 10, code := some k13c1 }
def k13c2 : Code := { maxStack := 3, maxLocals := 3, code := jdk_65_method_132_code, exceptionTable := #[], attributes := #[] }
def k13m2 : Method := { name := "copyOfRange", desc := "([BII)[B", sig := { parameters := [(.array .byte), .int, .int], returnType := some (.array .byte) }, accessFlags := 9, code := some k13c2 }
def k13c3 : Code := { maxStack := 6, maxLocals := 5, code := jdk_65_method_133_code, exceptionTable := #[], attributes := #[] }
def k13m3 : Method := { name := "copyOfRangeByte", desc := "([BII)[B", sig := { parameters := [(.array .byte), .int, .int], returnType := some (.array .byte) }, accessFlags := 10, code := some k13c3 }
/-- java/util/Arrays -/
def k13 : Class := { plain "java/util/Arrays" (some 0) with
  accessFlags := 49
  interfaces := #[]
  cf := some (fileOf pool13 14 #[.nestMembers #[975, 375, 113, 74]] #[{ accessFlags := 2, nameIndex := 5, descriptorIndex := 6, attributes := #[] }, { accessFlags := 10, nameIndex := 345, descriptorIndex := 346, attributes := #[] }, { accessFlags := 9, nameIndex := 139, descriptorIndex := 342, attributes := #[] }, { accessFlags := 10, nameIndex := 341, descriptorIndex := 342, attributes := #[] }] 49 2 #[] #[{ accessFlags := 26, nameIndex := 715, descriptorIndex := 716, attributes := #[] }, { accessFlags := 26, nameIndex := 719, descriptorIndex := 716, attributes := #[] }, { accessFlags := 4120, nameIndex := 445, descriptorIndex := 117, attributes := #[] }])
  fields := #[{ name := "MIN_ARRAY_SORT_GRAN", type := .int, accessFlags := 26, slot := 0, constantValue := 0 }, { name := "INSERTIONSORT_THRESHOLD", type := .int, accessFlags := 26, slot := 1, constantValue := 0 }, { name := "$assertionsDisabled", type := .boolean, accessFlags := 4120, slot := 2, constantValue := 0 }]
  methods := #[k13m0, k13m1, k13m2, k13m3]
  instanceTypes := #[]
  staticTypes := #[.int, .int, .boolean]
  resolved := Array.replicate 1029 none
  statics := none }

def pool14 : Array CpInfo := pool [(2, .class_ 4), (1, u "java/lang/Object"), (0, u "<init>"), (0, u "()V"), (1, .class_ 10), (1, u "java/lang/System"), (0, u "allowSecurityManager"), (0, u "I"), (16, u "cons"), (0, u "Ljava/io/Console;"), (77, .class_ 110), (1, u "java/lang/System$CallersHolder"), (43, u "initialErrStream"), (0, u "Ljava/io/PrintStream;"), (19, u "security"), (0, u "Ljava/lang/SecurityManager;"), (31, .class_ 209), (0, u "java/lang/System$1"), (7, u "props"), (0, u "Ljava/util/Properties;"), (2, u "lineSeparator"), (0, u "Ljava/lang/String;"), (96, .class_ 321), (1, u "java/lang/System$LoggerFinder"), (5, .class_ 328), (0, u "java/lang/System$Logger"), (67, u "err"), (2, u "out"), (91, u "notSupportedJnuEncoding"), (15, u "in"), (17, u "initialIn"), (0, u "Ljava/io/InputStream;"), (35, u "bootLayer"), (0, u "Ljava/lang/ModuleLayer;"), (99, .class_ 664), (0, u "java/lang/System$2"), (9, u "NEVER"), (2, u "MAYBE"), (49, u "arraycopy"), (0, u "(Ljava/lang/Object;ILjava/lang/Object;II)V"), (72, .class_ 802), (0, u "java/lang/System$Logger$Level")] 31

def k14m0 : Method := { name := "<init>", desc := "()V", sig := { parameters := [], returnType := none }, accessFlags := 2, code := none }
def k14m1 : Method := { name := "arraycopy", desc := "(Ljava/lang/Object;ILjava/lang/Object;II)V", sig := { parameters := [(.object "java/lang/Object"), .int, (.object "java/lang/Object"), .int, .int], returnType := none }, accessFlags := 265, code := none }
/-- java/lang/System -/
def k14 : Class := { plain "java/lang/System" (some 0) with
  accessFlags := 49
  interfaces := #[]
  cf := some (fileOf pool14 8 #[.nestMembers #[319, 327, 801, 108, 663, 208]] #[{ accessFlags := 2, nameIndex := 5, descriptorIndex := 6, attributes := #[] }, { accessFlags := 265, nameIndex := 727, descriptorIndex := 728, attributes := #[] }] 49 2 #[] #[{ accessFlags := 25, nameIndex := 507, descriptorIndex := 526, attributes := #[] }, { accessFlags := 25, nameIndex := 399, descriptorIndex := 155, attributes := #[] }, { accessFlags := 25, nameIndex := 396, descriptorIndex := 155, attributes := #[] }, { accessFlags := 10, nameIndex := 525, descriptorIndex := 526, attributes := #[] }, { accessFlags := 26, nameIndex := 674, descriptorIndex := 12, attributes := #[] }, { accessFlags := 26, nameIndex := 677, descriptorIndex := 12, attributes := #[] }, { accessFlags := 10, nameIndex := 11, descriptorIndex := 12, attributes := #[] }, { accessFlags := 74, nameIndex := 175, descriptorIndex := 176, attributes := #[] }, { accessFlags := 10, nameIndex := 491, descriptorIndex := 222, attributes := #[] }, { accessFlags := 74, nameIndex := 29, descriptorIndex := 30, attributes := #[] }, { accessFlags := 74, nameIndex := 154, descriptorIndex := 155, attributes := #[] }, { accessFlags := 10, nameIndex := 217, descriptorIndex := 218, attributes := #[] }, { accessFlags := 10, nameIndex := 221, descriptorIndex := 222, attributes := #[] }, { accessFlags := 8, nameIndex := 562, descriptorIndex := 563, attributes := #[] }])
  fields := #[{ name := "in", type := (.object "java/io/InputStream"), accessFlags := 25, slot := 0, constantValue := 0 }, { name := "out", type := (.object "java/io/PrintStream"), accessFlags := 25, slot := 1, constantValue := 0 }, { name := "err", type := (.object "java/io/PrintStream"), accessFlags := 25, slot := 2, constantValue := 0 }, { name := "initialIn", type := (.object "java/io/InputStream"), accessFlags := 10, slot := 3, constantValue := 0 }, { name := "NEVER", type := .int, accessFlags := 26, slot := 4, constantValue := 0 }, { name := "MAYBE", type := .int, accessFlags := 26, slot := 5, constantValue := 0 }, { name := "allowSecurityManager", type := .int, accessFlags := 10, slot := 6, constantValue := 0 }, { name := "security", type := (.object "java/lang/SecurityManager"), accessFlags := 74, slot := 7, constantValue := 0 }, { name := "notSupportedJnuEncoding", type := (.object "java/lang/String"), accessFlags := 10, slot := 8, constantValue := 0 }, { name := "cons", type := (.object "java/io/Console"), accessFlags := 74, slot := 9, constantValue := 0 }, { name := "initialErrStream", type := (.object "java/io/PrintStream"), accessFlags := 74, slot := 10, constantValue := 0 }, { name := "props", type := (.object "java/util/Properties"), accessFlags := 10, slot := 11, constantValue := 0 }, { name := "lineSeparator", type := (.object "java/lang/String"), accessFlags := 10, slot := 12, constantValue := 0 }, { name := "bootLayer", type := (.object "java/lang/ModuleLayer"), accessFlags := 8, slot := 13, constantValue := 0 }]
  methods := #[k14m0, k14m1]
  instanceTypes := #[]
  staticTypes := #[(.object "java/io/InputStream"), (.object "java/io/PrintStream"), (.object "java/io/PrintStream"), (.object "java/io/InputStream"), .int, .int, .int, (.object "java/lang/SecurityManager"), (.object "java/lang/String"), (.object "java/io/Console"), (.object "java/io/PrintStream"), (.object "java/util/Properties"), (.object "java/lang/String"), (.object "java/lang/ModuleLayer")]
  resolved := Array.replicate 834 none
  statics := none }

def pool15 : Array CpInfo := pool [(9, u "<init>"), (6, .class_ 18), (1, u "java/lang/Object"), (0, u "()V"), (1, .class_ 23), (1, u "jdk/internal/util/ArraysSupport"), (0, u "LOG2_ARRAY_LONG_INDEX_SCALE"), (0, u "I"), (2, u "U"), (0, u "Ljdk/internal/misc/Unsafe;"), (8, u "BIG_ENDIAN"), (0, u "Z"), (8, u "LOG2_BYTE_BIT_SIZE"), (4, u "LOG2_ARRAY_INT_INDEX_SCALE"), (54, u "JLA"), (0, u "Ljdk/internal/access/JavaLangAccess;"), (11, u "LOG2_ARRAY_BOOLEAN_INDEX_SCALE"), (9, u "LOG2_ARRAY_BYTE_INDEX_SCALE"), (5, u "LOG2_ARRAY_CHAR_INDEX_SCALE"), (5, u "LOG2_ARRAY_SHORT_INDEX_SCALE"), (18, u "LOG2_ARRAY_FLOAT_INDEX_SCALE"), (24, u "LOG2_ARRAY_DOUBLE_INDEX_SCALE"), (89, u "T_BOOLEAN"), (2, u "T_CHAR"), (1, u "T_FLOAT"), (1, u "T_DOUBLE"), (1, u "T_BYTE"), (1, u "T_SHORT"), (1, u "T_INT"), (1, u "T_LONG"), (1, u "SOFT_MAX_ARRAY_LENGTH")] 83

def k15m0 : Method := { name := "<init>", desc := "()V", sig := { parameters := [], returnType := none }, accessFlags := 2, code := none }
/-- jdk/internal/util/ArraysSupport -/
def k15 : Class := { plain "jdk/internal/util/ArraysSupport" (some 0) with
  accessFlags := 33
  interfaces := #[]
  cf := some (fileOf pool15 21 #[] #[{ accessFlags := 2, nameIndex := 9, descriptorIndex := 19, attributes := #[] }] 33 16 #[] #[{ accessFlags := 24, nameIndex := 28, descriptorIndex := 29, attributes := #[] }, { accessFlags := 26, nameIndex := 38, descriptorIndex := 39, attributes := #[] }, { accessFlags := 25, nameIndex := 121, descriptorIndex := 25, attributes := #[] }, { accessFlags := 25, nameIndex := 131, descriptorIndex := 25, attributes := #[] }, { accessFlags := 25, nameIndex := 137, descriptorIndex := 25, attributes := #[] }, { accessFlags := 25, nameIndex := 143, descriptorIndex := 25, attributes := #[] }, { accessFlags := 25, nameIndex := 53, descriptorIndex := 25, attributes := #[] }, { accessFlags := 25, nameIndex := 24, descriptorIndex := 25, attributes := #[] }, { accessFlags := 25, nameIndex := 162, descriptorIndex := 25, attributes := #[] }, { accessFlags := 25, nameIndex := 187, descriptorIndex := 25, attributes := #[] }, { accessFlags := 26, nameIndex := 48, descriptorIndex := 25, attributes := #[] }, { accessFlags := 25, nameIndex := 277, descriptorIndex := 25, attributes := #[] }, { accessFlags := 25, nameIndex := 280, descriptorIndex := 25, attributes := #[] }, { accessFlags := 25, nameIndex := 282, descriptorIndex := 25, attributes := #[] }, { accessFlags := 25, nameIndex := 284, descriptorIndex := 25, attributes := #[] }, { accessFlags := 25, nameIndex := 286, descriptorIndex := 25, attributes := #[] }, { accessFlags := 25, nameIndex := 288, descriptorIndex := 25, attributes := #[] }, { accessFlags := 25, nameIndex := 290, descriptorIndex := 25, attributes := #[] }, { accessFlags := 25, nameIndex := 292, descriptorIndex := 25, attributes := #[] }, { accessFlags := 26, nameIndex := 108, descriptorIndex := 109, attributes := #[] }, { accessFlags := 25, nameIndex := 294, descriptorIndex := 25, attributes := #[] }])
  fields := #[{ name := "U", type := (.object "jdk/internal/misc/Unsafe"), accessFlags := 24, slot := 0, constantValue := 0 }, { name := "BIG_ENDIAN", type := .boolean, accessFlags := 26, slot := 1, constantValue := 0 }, { name := "LOG2_ARRAY_BOOLEAN_INDEX_SCALE", type := .int, accessFlags := 25, slot := 2, constantValue := 0 }, { name := "LOG2_ARRAY_BYTE_INDEX_SCALE", type := .int, accessFlags := 25, slot := 3, constantValue := 0 }, { name := "LOG2_ARRAY_CHAR_INDEX_SCALE", type := .int, accessFlags := 25, slot := 4, constantValue := 0 }, { name := "LOG2_ARRAY_SHORT_INDEX_SCALE", type := .int, accessFlags := 25, slot := 5, constantValue := 0 }, { name := "LOG2_ARRAY_INT_INDEX_SCALE", type := .int, accessFlags := 25, slot := 6, constantValue := 0 }, { name := "LOG2_ARRAY_LONG_INDEX_SCALE", type := .int, accessFlags := 25, slot := 7, constantValue := 0 }, { name := "LOG2_ARRAY_FLOAT_INDEX_SCALE", type := .int, accessFlags := 25, slot := 8, constantValue := 0 }, { name := "LOG2_ARRAY_DOUBLE_INDEX_SCALE", type := .int, accessFlags := 25, slot := 9, constantValue := 0 }, { name := "LOG2_BYTE_BIT_SIZE", type := .int, accessFlags := 26, slot := 10, constantValue := 0 }, { name := "T_BOOLEAN", type := .int, accessFlags := 25, slot := 11, constantValue := 0 }, { name := "T_CHAR", type := .int, accessFlags := 25, slot := 12, constantValue := 0 }, { name := "T_FLOAT", type := .int, accessFlags := 25, slot := 13, constantValue := 0 }, { name := "T_DOUBLE", type := .int, accessFlags := 25, slot := 14, constantValue := 0 }, { name := "T_BYTE", type := .int, accessFlags := 25, slot := 15, constantValue := 0 }, { name := "T_SHORT", type := .int, accessFlags := 25, slot := 16, constantValue := 0 }, { name := "T_INT", type := .int, accessFlags := 25, slot := 17, constantValue := 0 }, { name := "T_LONG", type := .int, accessFlags := 25, slot := 18, constantValue := 0 }, { name := "JLA", type := (.object "jdk/internal/access/JavaLangAccess"), accessFlags := 26, slot := 19, constantValue := 0 }, { name := "SOFT_MAX_ARRAY_LENGTH", type := .int, accessFlags := 25, slot := 20, constantValue := 0 }]
  methods := #[k15m0]
  instanceTypes := #[]
  staticTypes := #[(.object "jdk/internal/misc/Unsafe"), .boolean, .int, .int, .int, .int, .int, .int, .int, .int, .int, .int, .int, .int, .int, .int, .int, .int, .int, (.object "jdk/internal/access/JavaLangAccess"), .int]
  resolved := Array.replicate 378 none
  statics := none }

def pool16 : Array CpInfo := pool [(1, u "java/lang/Cloneable"), (0, .class_ 1), (0, u "java/lang/Object"), (0, .class_ 3)] 3

/-- java/lang/Cloneable -/
def k16 : Class := { plain "java/lang/Cloneable" (some 0) with
  accessFlags := 1537
  interfaces := #[]
  cf := some (fileOf pool16 2 #[] #[] 1537 4 #[] #[])
  fields := #[]
  methods := #[]
  instanceTypes := #[]
  staticTypes := #[]
  resolved := Array.replicate 8 none
  statics := none }

/-- the primitive byte -/
def k17 : Class := { plain "byte" none with kind := .primitive 'B', accessFlags := 0x411 }
/-- [B -/
def k18 : Class := { plain "[B" (some 0) with kind := .array 17 .byte, interfaces := #[16, 2], accessFlags := 1041 }

/-- the primitive char -/
def k19 : Class := { plain "char" none with kind := .primitive 'C', accessFlags := 0x411 }
/-- [C -/
def k20 : Class := { plain "[C" (some 0) with kind := .array 19 .char, interfaces := #[16, 2], accessFlags := 1041 }

/-- the primitive int -/
def k21 : Class := { plain "int" none with kind := .primitive 'I', accessFlags := 0x411 }
/-- [I -/
def k22 : Class := { plain "[I" (some 0) with kind := .array 21 .int, interfaces := #[16, 2], accessFlags := 1041 }

def heap : Heap := #[{ cls := 7, slots := #[.long 0, .int 1, .null, .int 0, .null, .int 0, .int 0], vm := .statics 7 },
  { cls := 9, slots := #[.null, .null, .null], vm := .statics 9 }]
def classes : Array Class := #[k0, k1, k2, k3, k4, k5, k6, k7, k8, k9, k10, k11, k12, k13, k14, k15, k16, k17, k18, k19, k20, k21, k22]
def interned : List (Array UInt16 × Addr) := []
def slotsUsed : Nat := 10
def theMethod : MethodId := ⟨1, 3⟩
def args0 : Array Value := #[.int 5, .long 3]
def aboutOver (below : List Frame) : State where
  vm := { classes := classes, interned := interned.toArray }
  heap := heap
  slotsUsed := slotsUsed
  threads := #[{ frames := .invoking theMethod args0 :: below }]
def below0 : List Frame := [.native { method := ⟨0, 0⟩, args := #[] }]
def about1 : State := aboutOver below0
def p0 : Program := .bare "" "" ""
def e0 : Env := launch0.env 0 0 0
theorem w_frames : about1.frames = Frame.invoking theMethod args0 :: below0 := rfl
set_option maxRecDepth 65536 in
theorem w_args : argsFit about1.vm theMethod args0 = true := by decide +kernel
set_option maxRecDepth 65536 in
theorem w_heap : heapFits about1 = true := by decide +kernel
set_option maxRecDepth 65536 in
theorem w_runnable : about1.curStatus? = some .runnable := by decide +kernel
set_option maxRecDepth 65536 in
theorem w_alone : about1.alone = true := by decide +kernel
set_option maxRecDepth 65536 in
theorem w_named : about1.methodNamed? x = some theMethod := by decide +kernel
set_option maxRecDepth 65536 in
theorem w_hears : about1.hears theMethod below0 = true := by decide +kernel
set_option maxRecDepth 65536 in
theorem w_ripe : about1.ripe theMethod args0 below0 = true := by decide +kernel
theorem w_running : about1.status = .running := rfl
set_option maxRecDepth 65536 in
theorem w_room : about1.hasRoom e0.platform room_1 = true :=
  launch0.hasRoom_least _ room_1 (by decide +kernel) (by decide +kernel) (by decide +kernel) (by decide +kernel) (by decide +kernel) (by decide +kernel)
theorem allAtoms_all (ts : List Jvm.Cond) (a : Array Jvm.Value) (st : Jvm.State) : (allAtoms ts).before a st = ts.all (fun c => c.before a st) := by
  induction ts with
  | nil => rfl
  | cons c t ih =>
    show (Jvm.Cond.and c (allAtoms t)).before a st = _
    rw [Jvm.Cond.before_and, ih, List.all_cons]
def words1 : List Jvm.Cond := Jvm.Cond.code x code maxLocals ret :: tables_1
/-- a 'code' word, met by the world's own term for the bytes: nothing is compared byte by byte -/
theorem code_word {y : MethodName} {bytes : ByteArray} {mx : Nat} {rt : Option FieldType} {a : Array Value} {s : State} {m : MethodId} {meth : Method} {c : Code} (h1 : s.methodNamed? y = some m) (h2 : s.vm.method? m = some meth) (h3 : meth.code = some c) (h4 : c.code = bytes)
    (h5 : (c.maxLocals == mx && c.exceptionTable.isEmpty && decide (c.maxStack ≤ mostOperands) && decide (meth.sig.returnType = rt) && !meth.locks && decide (parseMethodDescriptor y.desc = some meth.sig)) = true) : (Jvm.Cond.code y bytes mx rt).before a s = true := by
  simp only [Bool.and_eq_true, beq_iff_eq, Bool.not_eq_true', decide_eq_true_eq] at h5
  obtain ⟨⟨⟨⟨⟨g1, g2⟩, g3⟩, g4⟩, g5⟩, g6⟩ := h5
  simp [Cond.before, Cond.holds, Cond.value, h1, h2, h3, h4, g1, g2, g3, g4, g5, g6]
def isCode : Jvm.Cond → Bool
  | .code _ _ _ _ => true
  | _ => false
theorem all_split {L : List Jvm.Cond} {P : Jvm.Cond → Bool} (h1 : L.all (fun c => isCode c || P c) = true) (h2 : ∀ c ∈ L.filter isCode, P c = true) : L.all P = true := by
  refine List.all_eq_true.mpr fun c hc => ?_
  have h := List.all_eq_true.mp h1 c hc
  rcases Bool.eq_false_or_eq_true (isCode c) with hi | hi
  · exact h2 c (List.mem_filter.mpr ⟨hc, hi⟩)
  · simpa [hi] using h
set_option maxRecDepth 65536 in
theorem w_c0 : (Jvm.Cond.code x code maxLocals ret).before args0 about1 = true := code_word (m := ⟨1, 3⟩) (meth := k1m3) (c := k1c3) (by decide +kernel) rfl rfl rfl (by decide +kernel)
set_option maxRecDepth 65536 in
theorem w_c1 : (Jvm.Cond.code ({ cls := "com/example/sheafgate/sheafgate/store/SetSpecsLastPartPinLaw", name := "pick", desc := "(JI)C" } : Jvm.MethodName) method_2_code (4 : Nat) (Option.some Jvm.ClassFile.FieldType.char)).before args0 about1 = true := code_word (m := ⟨1, 1⟩) (meth := k1m1) (c := k1c1) (by decide +kernel) rfl rfl rfl (by decide +kernel)
set_option maxRecDepth 65536 in
theorem w_c2 : (Jvm.Cond.code ({ cls := "java/lang/String", name := "charAt", desc := "(I)C" } : Jvm.MethodName) jdk_42_method_56_code (2 : Nat) (Option.some Jvm.ClassFile.FieldType.char)).before args0 about1 = true := code_word (m := ⟨7, 3⟩) (meth := k7m3) (c := k7c3) (by decide +kernel) rfl rfl rfl (by decide +kernel)
set_option maxRecDepth 65536 in
theorem w_c3 : (Jvm.Cond.code ({ cls := "java/lang/String", name := "isLatin1", desc := "()Z" } : Jvm.MethodName) jdk_42_method_154_code (1 : Nat) (Option.some Jvm.ClassFile.FieldType.boolean)).before args0 about1 = true := code_word (m := ⟨7, 11⟩) (meth := k7m11) (c := k7c11) (by decide +kernel) rfl rfl rfl (by decide +kernel)
set_option maxRecDepth 65536 in
theorem w_c4 : (Jvm.Cond.code ({ cls := "java/lang/StringLatin1", name := "charAt", desc := "([BI)C" } : Jvm.MethodName) jdk_43_method_2_code (2 : Nat) (Option.some Jvm.ClassFile.FieldType.char)).before args0 about1 = true := code_word (m := ⟨8, 1⟩) (meth := k8m1) (c := k8c1) (by decide +kernel) rfl rfl rfl (by decide +kernel)
set_option maxRecDepth 65536 in
theorem w_c5 : (Jvm.Cond.code ({ cls := "java/lang/String", name := "checkIndex", desc := "(II)V" } : Jvm.MethodName) jdk_42_method_155_code (2 : Nat) (Option.none : Option Jvm.ClassFile.FieldType)).before args0 about1 = true := code_word (m := ⟨7, 12⟩) (meth := k7m12) (c := k7c12) (by decide +kernel) rfl rfl rfl (by decide +kernel)
set_option maxRecDepth 65536 in
theorem w_c6 : (Jvm.Cond.code ({ cls := "jdk/internal/util/Preconditions", name := "checkIndex", desc := "(IILjava/util/function/BiFunction;)I" } : Jvm.MethodName) jdk_41_method_11_code (3 : Nat) (Option.some Jvm.ClassFile.FieldType.int)).before args0 about1 = true := code_word (m := ⟨9, 1⟩) (meth := k9m1) (c := k9c1) (by decide +kernel) rfl rfl rfl (by decide +kernel)
set_option maxRecDepth 65536 in
theorem w_c7 : (Jvm.Cond.code ({ cls := "java/lang/String", name := "<init>", desc := "([C)V" } : Jvm.MethodName) jdk_42_method_3_code (2 : Nat) (Option.none : Option Jvm.ClassFile.FieldType)).before args0 about1 = true := code_word (m := ⟨7, 1⟩) (meth := k7m1) (c := k7c1) (by decide +kernel) rfl rfl rfl (by decide +kernel)
set_option maxRecDepth 65536 in
theorem w_c8 : (Jvm.Cond.code ({ cls := "java/lang/String", name := "<init>", desc := "([CIILjava/lang/Void;)V" } : Jvm.MethodName) jdk_42_method_149_code (6 : Nat) (Option.none : Option Jvm.ClassFile.FieldType)).before args0 about1 = true := code_word (m := ⟨7, 8⟩) (meth := k7m8) (c := k7c8) (by decide +kernel) rfl rfl rfl (by decide +kernel)
set_option maxRecDepth 65536 in
theorem w_c9 : (Jvm.Cond.code ({ cls := "java/lang/Object", name := "<init>", desc := "()V" } : Jvm.MethodName) object_method_1_code (1 : Nat) (Option.none : Option Jvm.ClassFile.FieldType)).before args0 about1 = true := code_word (m := ⟨0, 0⟩) (meth := k0m0) (c := k0c0) (by decide +kernel) rfl rfl rfl (by decide +kernel)
set_option maxRecDepth 65536 in
theorem w_c10 : (Jvm.Cond.code ({ cls := "java/lang/StringUTF16", name := "compress", desc := "([CII)[B" } : Jvm.MethodName) jdk_52_method_16_code (6 : Nat) (Option.some (Jvm.ClassFile.FieldType.array Jvm.ClassFile.FieldType.byte))).before args0 about1 = true := code_word (m := ⟨10, 2⟩) (meth := k10m2) (c := k10c2) (by decide +kernel) rfl rfl rfl (by decide +kernel)
set_option maxRecDepth 65536 in
theorem w_c11 : (Jvm.Cond.code ({ cls := "java/lang/StringUTF16", name := "compress", desc := "([CI[BII)I" } : Jvm.MethodName) jdk_52_method_21_code (7 : Nat) (Option.some Jvm.ClassFile.FieldType.int)).before args0 about1 = true := code_word (m := ⟨10, 3⟩) (meth := k10m3) (c := k10c3) (by decide +kernel) rfl rfl rfl (by decide +kernel)
set_option maxRecDepth 65536 in
theorem w_c12 : (Jvm.Cond.code ({ cls := "java/lang/StringUTF16", name := "coderFromArrayLen", desc := "([BI)B" } : Jvm.MethodName) jdk_52_method_15_code (2 : Nat) (Option.some Jvm.ClassFile.FieldType.byte)).before args0 about1 = true := code_word (m := ⟨10, 1⟩) (meth := k10m1) (c := k10c1) (by decide +kernel) rfl rfl rfl (by decide +kernel)
set_option maxRecDepth 65536 in
theorem w_c13 : (Jvm.Cond.code ({ cls := "com/example/sheafgate/sheafgate/store/SetSpecs", name := "lastPart", desc := "(Ljava/lang/String;)Ljava/lang/String;" } : Jvm.MethodName) prog_26_method_7_code (1 : Nat) (Option.some (Jvm.ClassFile.FieldType.object "java/lang/String"))).before args0 about1 = true := code_word (m := ⟨11, 1⟩) (meth := k11m1) (c := k11c1) (by decide +kernel) rfl rfl rfl (by decide +kernel)
set_option maxRecDepth 65536 in
theorem w_c14 : (Jvm.Cond.code ({ cls := "java/lang/String", name := "lastIndexOf", desc := "(I)I" } : Jvm.MethodName) jdk_42_method_82_code (2 : Nat) (Option.some Jvm.ClassFile.FieldType.int)).before args0 about1 = true := code_word (m := ⟨7, 4⟩) (meth := k7m4) (c := k7c4) (by decide +kernel) rfl rfl rfl (by decide +kernel)
set_option maxRecDepth 65536 in
theorem w_c15 : (Jvm.Cond.code ({ cls := "java/lang/String", name := "length", desc := "()I" } : Jvm.MethodName) jdk_42_method_54_code (1 : Nat) (Option.some Jvm.ClassFile.FieldType.int)).before args0 about1 = true := code_word (m := ⟨7, 2⟩) (meth := k7m2) (c := k7c2) (by decide +kernel) rfl rfl rfl (by decide +kernel)
set_option maxRecDepth 65536 in
theorem w_c16 : (Jvm.Cond.code ({ cls := "java/lang/String", name := "coder", desc := "()B" } : Jvm.MethodName) jdk_42_method_152_code (1 : Nat) (Option.some Jvm.ClassFile.FieldType.byte)).before args0 about1 = true := code_word (m := ⟨7, 10⟩) (meth := k7m10) (c := k7c10) (by decide +kernel) rfl rfl rfl (by decide +kernel)
set_option maxRecDepth 65536 in
theorem w_c17 : (Jvm.Cond.code ({ cls := "java/lang/String", name := "lastIndexOf", desc := "(II)I" } : Jvm.MethodName) jdk_42_method_83_code (3 : Nat) (Option.some Jvm.ClassFile.FieldType.int)).before args0 about1 = true := code_word (m := ⟨7, 5⟩) (meth := k7m5) (c := k7c5) (by decide +kernel) rfl rfl rfl (by decide +kernel)
set_option maxRecDepth 65536 in
theorem w_c18 : (Jvm.Cond.code ({ cls := "java/lang/StringLatin1", name := "lastIndexOf", desc := "([BII)I" } : Jvm.MethodName) jdk_43_method_27_code (4 : Nat) (Option.some Jvm.ClassFile.FieldType.int)).before args0 about1 = true := code_word (m := ⟨8, 3⟩) (meth := k8m3) (c := k8c3) (by decide +kernel) rfl rfl rfl (by decide +kernel)
set_option maxRecDepth 65536 in
theorem w_c19 : (Jvm.Cond.code ({ cls := "java/lang/StringLatin1", name := "canEncode", desc := "(I)Z" } : Jvm.MethodName) jdk_43_method_4_code (1 : Nat) (Option.some Jvm.ClassFile.FieldType.boolean)).before args0 about1 = true := code_word (m := ⟨8, 2⟩) (meth := k8m2) (c := k8c2) (by decide +kernel) rfl rfl rfl (by decide +kernel)
set_option maxRecDepth 65536 in
theorem w_c20 : (Jvm.Cond.code ({ cls := "java/lang/Math", name := "min", desc := "(II)I" } : Jvm.MethodName) jdk_29_method_69_code (2 : Nat) (Option.some Jvm.ClassFile.FieldType.int)).before args0 about1 = true := code_word (m := ⟨12, 1⟩) (meth := k12m1) (c := k12c1) (by decide +kernel) rfl rfl rfl (by decide +kernel)
set_option maxRecDepth 65536 in
theorem w_c21 : (Jvm.Cond.code ({ cls := "java/lang/String", name := "substring", desc := "(I)Ljava/lang/String;" } : Jvm.MethodName) jdk_42_method_91_code (2 : Nat) (Option.some (Jvm.ClassFile.FieldType.object "java/lang/String"))).before args0 about1 = true := code_word (m := ⟨7, 6⟩) (meth := k7m6) (c := k7c6) (by decide +kernel) rfl rfl rfl (by decide +kernel)
set_option maxRecDepth 65536 in
theorem w_c22 : (Jvm.Cond.code ({ cls := "java/lang/String", name := "substring", desc := "(II)Ljava/lang/String;" } : Jvm.MethodName) jdk_42_method_92_code (5 : Nat) (Option.some (Jvm.ClassFile.FieldType.object "java/lang/String"))).before args0 about1 = true := code_word (m := ⟨7, 7⟩) (meth := k7m7) (c := k7c7) (by decide +kernel) rfl rfl rfl (by decide +kernel)
set_option maxRecDepth 65536 in
theorem w_c23 : (Jvm.Cond.code ({ cls := "java/lang/String", name := "checkBoundsBeginEnd", desc := "(III)V" } : Jvm.MethodName) jdk_42_method_158_code (3 : Nat) (Option.none : Option Jvm.ClassFile.FieldType)).before args0 about1 = true := code_word (m := ⟨7, 13⟩) (meth := k7m13) (c := k7c13) (by decide +kernel) rfl rfl rfl (by decide +kernel)
set_option maxRecDepth 65536 in
theorem w_c24 : (Jvm.Cond.code ({ cls := "jdk/internal/util/Preconditions", name := "checkFromToIndex", desc := "(IIILjava/util/function/BiFunction;)I" } : Jvm.MethodName) jdk_41_method_12_code (4 : Nat) (Option.some Jvm.ClassFile.FieldType.int)).before args0 about1 = true := code_word (m := ⟨9, 2⟩) (meth := k9m2) (c := k9c2) (by decide +kernel) rfl rfl rfl (by decide +kernel)
set_option maxRecDepth 65536 in
theorem w_c25 : (Jvm.Cond.code ({ cls := "com/example/sheafgate/sheafgate/store/SetSpecsLastPartPinLaw", name := "at", desc := "(Ljava/lang/String;[CII)Z" } : Jvm.MethodName) method_3_code (4 : Nat) (Option.some Jvm.ClassFile.FieldType.boolean)).before args0 about1 = true := code_word (m := ⟨1, 2⟩) (meth := k1m2) (c := k1c2) (by decide +kernel) rfl rfl rfl (by decide +kernel)
set_option maxRecDepth 65536 in
theorem w_c26 : (Jvm.Cond.code ({ cls := "java/lang/StringLatin1", name := "newString", desc := "([BII)Ljava/lang/String;" } : Jvm.MethodName) jdk_43_method_47_code (3 : Nat) (Option.some (Jvm.ClassFile.FieldType.object "java/lang/String"))).before args0 about1 = true := code_word (m := ⟨8, 4⟩) (meth := k8m4) (c := k8c4) (by decide +kernel) rfl rfl rfl (by decide +kernel)
set_option maxRecDepth 65536 in
theorem w_c27 : (Jvm.Cond.code ({ cls := "java/util/Arrays", name := "copyOfRange", desc := "([BII)[B" } : Jvm.MethodName) jdk_65_method_132_code (3 : Nat) (Option.some (Jvm.ClassFile.FieldType.array Jvm.ClassFile.FieldType.byte))).before args0 about1 = true := code_word (m := ⟨13, 2⟩) (meth := k13m2) (c := k13c2) (by decide +kernel) rfl rfl rfl (by decide +kernel)
set_option maxRecDepth 65536 in
theorem w_c28 : (Jvm.Cond.code ({ cls := "java/util/Arrays", name := "copyOfRangeByte", desc := "([BII)[B" } : Jvm.MethodName) jdk_65_method_133_code (5 : Nat) (Option.some (Jvm.ClassFile.FieldType.array Jvm.ClassFile.FieldType.byte))).before args0 about1 = true := code_word (m := ⟨13, 3⟩) (meth := k13m3) (c := k13c3) (by decide +kernel) rfl rfl rfl (by decide +kernel)
set_option maxRecDepth 65536 in
theorem w_c29 : (Jvm.Cond.code ({ cls := "java/util/Arrays", name := "checkLength", desc := "(II)V" } : Jvm.MethodName) jdk_65_method_131_code (2 : Nat) (Option.none : Option Jvm.ClassFile.FieldType)).before args0 about1 = true := code_word (m := ⟨13, 1⟩) (meth := k13m1) (c := k13c1) (by decide +kernel) rfl rfl rfl (by decide +kernel)
set_option maxRecDepth 65536 in
theorem w_c30 : (Jvm.Cond.code ({ cls := "java/lang/String", name := "<init>", desc := "([BB)V" } : Jvm.MethodName) jdk_42_method_151_code (3 : Nat) (Option.none : Option Jvm.ClassFile.FieldType)).before args0 about1 = true := code_word (m := ⟨7, 9⟩) (meth := k7m9) (c := k7c9) (by decide +kernel) rfl rfl rfl (by decide +kernel)
def codes1 : List Jvm.Cond := [Jvm.Cond.code x code maxLocals ret, Jvm.Cond.code ({ cls := "com/example/sheafgate/sheafgate/store/SetSpecsLastPartPinLaw", name := "pick", desc := "(JI)C" } : Jvm.MethodName) method_2_code (4 : Nat) (Option.some Jvm.ClassFile.FieldType.char), Jvm.Cond.code ({ cls := "java/lang/String", name := "charAt", desc := "(I)C" } : Jvm.MethodName) jdk_42_method_56_code (2 : Nat) (Option.some Jvm.ClassFile.FieldType.char), Jvm.Cond.code ({ cls := "java/lang/String", name := "isLatin1", desc := "()Z" } : Jvm.MethodName) jdk_42_method_154_code (1 : Nat) (Option.some Jvm.ClassFile.FieldType.boolean), Jvm.Cond.code ({ cls := "java/lang/StringLatin1", name := "charAt", desc := "([BI)C" } : Jvm.MethodName) jdk_43_method_2_code (2 : Nat) (Option.some Jvm.ClassFile.FieldType.char), Jvm.Cond.code ({ cls := "java/lang/String", name := "checkIndex", desc := "(II)V" } : Jvm.MethodName) jdk_42_method_155_code (2 : Nat) (Option.none : Option Jvm.ClassFile.FieldType), Jvm.Cond.code ({ cls := "jdk/internal/util/Preconditions", name := "checkIndex", desc := "(IILjava/util/function/BiFunction;)I" } : Jvm.MethodName) jdk_41_method_11_code (3 : Nat) (Option.some Jvm.ClassFile.FieldType.int), Jvm.Cond.code ({ cls := "java/lang/String", name := "<init>", desc := "([C)V" } : Jvm.MethodName) jdk_42_method_3_code (2 : Nat) (Option.none : Option Jvm.ClassFile.FieldType), Jvm.Cond.code ({ cls := "java/lang/String", name := "<init>", desc := "([CIILjava/lang/Void;)V" } : Jvm.MethodName) jdk_42_method_149_code (6 : Nat) (Option.none : Option Jvm.ClassFile.FieldType), Jvm.Cond.code ({ cls := "java/lang/Object", name := "<init>", desc := "()V" } : Jvm.MethodName) object_method_1_code (1 : Nat) (Option.none : Option Jvm.ClassFile.FieldType), Jvm.Cond.code ({ cls := "java/lang/StringUTF16", name := "compress", desc := "([CII)[B" } : Jvm.MethodName) jdk_52_method_16_code (6 : Nat) (Option.some (Jvm.ClassFile.FieldType.array Jvm.ClassFile.FieldType.byte)), Jvm.Cond.code ({ cls := "java/lang/StringUTF16", name := "compress", desc := "([CI[BII)I" } : Jvm.MethodName) jdk_52_method_21_code (7 : Nat) (Option.some Jvm.ClassFile.FieldType.int), Jvm.Cond.code ({ cls := "java/lang/StringUTF16", name := "coderFromArrayLen", desc := "([BI)B" } : Jvm.MethodName) jdk_52_method_15_code (2 : Nat) (Option.some Jvm.ClassFile.FieldType.byte), Jvm.Cond.code ({ cls := "com/example/sheafgate/sheafgate/store/SetSpecs", name := "lastPart", desc := "(Ljava/lang/String;)Ljava/lang/String;" } : Jvm.MethodName) prog_26_method_7_code (1 : Nat) (Option.some (Jvm.ClassFile.FieldType.object "java/lang/String")), Jvm.Cond.code ({ cls := "java/lang/String", name := "lastIndexOf", desc := "(I)I" } : Jvm.MethodName) jdk_42_method_82_code (2 : Nat) (Option.some Jvm.ClassFile.FieldType.int), Jvm.Cond.code ({ cls := "java/lang/String", name := "length", desc := "()I" } : Jvm.MethodName) jdk_42_method_54_code (1 : Nat) (Option.some Jvm.ClassFile.FieldType.int), Jvm.Cond.code ({ cls := "java/lang/String", name := "coder", desc := "()B" } : Jvm.MethodName) jdk_42_method_152_code (1 : Nat) (Option.some Jvm.ClassFile.FieldType.byte), Jvm.Cond.code ({ cls := "java/lang/String", name := "lastIndexOf", desc := "(II)I" } : Jvm.MethodName) jdk_42_method_83_code (3 : Nat) (Option.some Jvm.ClassFile.FieldType.int), Jvm.Cond.code ({ cls := "java/lang/StringLatin1", name := "lastIndexOf", desc := "([BII)I" } : Jvm.MethodName) jdk_43_method_27_code (4 : Nat) (Option.some Jvm.ClassFile.FieldType.int), Jvm.Cond.code ({ cls := "java/lang/StringLatin1", name := "canEncode", desc := "(I)Z" } : Jvm.MethodName) jdk_43_method_4_code (1 : Nat) (Option.some Jvm.ClassFile.FieldType.boolean), Jvm.Cond.code ({ cls := "java/lang/Math", name := "min", desc := "(II)I" } : Jvm.MethodName) jdk_29_method_69_code (2 : Nat) (Option.some Jvm.ClassFile.FieldType.int), Jvm.Cond.code ({ cls := "java/lang/String", name := "substring", desc := "(I)Ljava/lang/String;" } : Jvm.MethodName) jdk_42_method_91_code (2 : Nat) (Option.some (Jvm.ClassFile.FieldType.object "java/lang/String")), Jvm.Cond.code ({ cls := "java/lang/String", name := "substring", desc := "(II)Ljava/lang/String;" } : Jvm.MethodName) jdk_42_method_92_code (5 : Nat) (Option.some (Jvm.ClassFile.FieldType.object "java/lang/String")), Jvm.Cond.code ({ cls := "java/lang/String", name := "checkBoundsBeginEnd", desc := "(III)V" } : Jvm.MethodName) jdk_42_method_158_code (3 : Nat) (Option.none : Option Jvm.ClassFile.FieldType), Jvm.Cond.code ({ cls := "jdk/internal/util/Preconditions", name := "checkFromToIndex", desc := "(IIILjava/util/function/BiFunction;)I" } : Jvm.MethodName) jdk_41_method_12_code (4 : Nat) (Option.some Jvm.ClassFile.FieldType.int), Jvm.Cond.code ({ cls := "com/example/sheafgate/sheafgate/store/SetSpecsLastPartPinLaw", name := "at", desc := "(Ljava/lang/String;[CII)Z" } : Jvm.MethodName) method_3_code (4 : Nat) (Option.some Jvm.ClassFile.FieldType.boolean), Jvm.Cond.code ({ cls := "java/lang/StringLatin1", name := "newString", desc := "([BII)Ljava/lang/String;" } : Jvm.MethodName) jdk_43_method_47_code (3 : Nat) (Option.some (Jvm.ClassFile.FieldType.object "java/lang/String")), Jvm.Cond.code ({ cls := "java/util/Arrays", name := "copyOfRange", desc := "([BII)[B" } : Jvm.MethodName) jdk_65_method_132_code (3 : Nat) (Option.some (Jvm.ClassFile.FieldType.array Jvm.ClassFile.FieldType.byte)), Jvm.Cond.code ({ cls := "java/util/Arrays", name := "copyOfRangeByte", desc := "([BII)[B" } : Jvm.MethodName) jdk_65_method_133_code (5 : Nat) (Option.some (Jvm.ClassFile.FieldType.array Jvm.ClassFile.FieldType.byte)), Jvm.Cond.code ({ cls := "java/util/Arrays", name := "checkLength", desc := "(II)V" } : Jvm.MethodName) jdk_65_method_131_code (2 : Nat) (Option.none : Option Jvm.ClassFile.FieldType), Jvm.Cond.code ({ cls := "java/lang/String", name := "<init>", desc := "([BB)V" } : Jvm.MethodName) jdk_42_method_151_code (3 : Nat) (Option.none : Option Jvm.ClassFile.FieldType)]
set_option maxRecDepth 65536 in
theorem codes_eq : words1.filter isCode = codes1 := rfl
theorem w_codes : ∀ c ∈ words1.filter isCode, c.before args0 about1 = true := by
  rw [codes_eq]
  intro c hc
  simp only [codes1, List.mem_cons, List.not_mem_nil, or_false] at hc
  rcases hc with rfl | rfl | rfl | rfl | rfl | rfl | rfl | rfl | rfl | rfl | rfl | rfl | rfl | rfl | rfl | rfl | rfl | rfl | rfl | rfl | rfl | rfl | rfl | rfl | rfl | rfl | rfl | rfl | rfl | rfl | rfl
  · exact w_c0
  · exact w_c1
  · exact w_c2
  · exact w_c3
  · exact w_c4
  · exact w_c5
  · exact w_c6
  · exact w_c7
  · exact w_c8
  · exact w_c9
  · exact w_c10
  · exact w_c11
  · exact w_c12
  · exact w_c13
  · exact w_c14
  · exact w_c15
  · exact w_c16
  · exact w_c17
  · exact w_c18
  · exact w_c19
  · exact w_c20
  · exact w_c21
  · exact w_c22
  · exact w_c23
  · exact w_c24
  · exact w_c25
  · exact w_c26
  · exact w_c27
  · exact w_c28
  · exact w_c29
  · exact w_c30
set_option maxRecDepth 65536 in
theorem w_t1 : (words1.take 24).all (fun c => isCode c || c.before args0 about1) = true := by decide +kernel
set_option maxRecDepth 65536 in
theorem w_t2 : ((words1.drop 24).take 24).all (fun c => isCode c || c.before args0 about1) = true := by decide +kernel
set_option maxRecDepth 65536 in
theorem w_t3 : (((words1.drop 24).drop 24).take 24).all (fun c => isCode c || c.before args0 about1) = true := by decide +kernel
set_option maxRecDepth 65536 in
theorem w_t4 : ((((words1.drop 24).drop 24).drop 24).take 24).all (fun c => isCode c || c.before args0 about1) = true := by decide +kernel
set_option maxRecDepth 65536 in
theorem w_t5 : (((((words1.drop 24).drop 24).drop 24).drop 24).take 24).all (fun c => isCode c || c.before args0 about1) = true := by decide +kernel
set_option maxRecDepth 65536 in
theorem w_t6 : (((((words1.drop 24).drop 24).drop 24).drop 24).drop 24).all (fun c => isCode c || c.before args0 about1) = true := by decide +kernel
theorem w_tables : (allAtoms (Jvm.Cond.code x code maxLocals ret :: tables_1)).before args0 about1 = true := by
  rw [allAtoms_all]
  show words1.all (fun c => c.before args0 about1) = true
  refine all_split ?_ w_codes
  rw [← List.take_append_drop 24 words1, List.all_append, w_t1, ← List.take_append_drop 24 (words1.drop 24), List.all_append, w_t2, ← List.take_append_drop 24 ((words1.drop 24).drop 24), List.all_append, w_t3, ← List.take_append_drop 24 (((words1.drop 24).drop 24).drop 24), List.all_append, w_t4, ← List.take_append_drop 24 ((((words1.drop 24).drop 24).drop 24).drop 24), List.all_append, w_t5, w_t6]
  rfl
set_option maxRecDepth 65536 in
theorem w_rest : rest_1_c.before args0 about1 = true := by decide +kernel
set_option maxRecDepth 65536 in
theorem w_case : (Jvm.Cond.and given_1 narrow_1).before args0 about1 = true := by decide +kernel
set_option maxRecDepth 65536 in
theorem w_consts : constsHeld consts_1 about1 := Jvm.Lit.constsHeldB_iff.mp (by decide +kernel)
theorem w_applies : (headSpec (Jvm.Cond.code x code maxLocals ret :: tables_1) room_1).applies x e0.platform about1 = true :=
  (Spec.applies_iff w_frames).mpr ⟨w_running, w_runnable, w_alone, w_named, w_hears, w_ripe, w_room, w_tables⟩
theorem atStart : AtStart classFile x code maxLocals ret World_1 tables_1 room_1 Calls_1 rest_1 Pre_1 launch0 p0 e0 about1 theMethod args0 below0 :=
  ⟨lists_1, trivial, launch0.admits_env _ _ _, launch0.least_env, fairChoices_fair.cas, fairChoices_fair.clock, w_frames, w_args, w_heap, w_applies, ⟨w_consts, trivial⟩, w_rest, w_case⟩
end start1
theorem witness_1 : WitnessClaimed_1 := ⟨start1.p0, start1.e0, start1.about1, start1.theMethod, start1.args0, start1.below0, start1.atStart⟩
end Jvm.Pilot.@@N@@
