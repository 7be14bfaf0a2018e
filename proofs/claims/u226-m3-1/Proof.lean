import JvmDerived
import JvmDerived.Pilot.@@N@@Statement
import JvmDerived.Pilot.@@N@@Code
set_option linter.unusedVariables false
set_option linter.unusedSimpArgs false
/- laws to paste: Road.lenW, Road.chN, Road.codOf (cut by pick.py; bodies as the Statement names them) -/
namespace Jvm.Pilot.@@N@@
namespace StrChars
open Jvm Sem ClassFile Op Lib Jvm.Stand Jvm.Free.XT Jvm.Free.ALB Jvm.Free.JM Jvm.Free
open Jvm.Lib.Cold (StaticIs)
/-- a char array whose places are chars -/
def Ch (a : Addr) (A : Cell) (U : State) : Prop := Arr .char a A U ∧ Typed .char A
theorem Ch.mv {a : Addr} {A : Cell} {U U' : State} (h : Ch a A U) (hal : U.vm.Alike U'.vm) (hh : U'.heap = U.heap) : Ch a A U' := ⟨h.1.mv hal hh, h.2⟩
theorem Ch.keep {a : Addr} {A : Cell} {U U' : State} (h : Ch a A U) (hal : U.vm.Alike U'.vm) (hk : U'.heap[a]? = some A) : Ch a A U' := ⟨h.1.keep hal hk, h.2⟩
/-- what place i of a char[]'s cell holds -/
def cv (A : Cell) (i : Nat) : Int32 := match A.slots[i]? with | some (.int x) => x | _ => 0
theorem Ch.get {a : Addr} {A : Cell} {U : State} (h : Ch a A U) {i : Nat} (hi : i < A.slots.size) : A.slots[i]? = some (.int (cv A i)) := by
  have e := Array.getElem?_eq_getElem hi
  have f := h.2 i _ e
  unfold cv; rw [e]
  generalize A.slots[i] = v at f
  cases v <;> simp [fits] at f ⊢
/-- the byte that i2b leaves of a char -/
def lo8 (x : Int32) : Int32 := x.toInt8.toInt32
theorem fits_lo8 (y : Int32) : fits .byte (.int (lo8 y)) = true := by
  have h1 := y.toInt8.le_toInt
  have h2 := y.toInt8.toInt_lt
  simp only [lo8, fits, Bool.and_eq_true, decide_eq_true_eq, Int32.le_iff_toInt_le, Int8.toInt_toInt32, show (-128 : Int32).toInt = -128 from by decide, show (127 : Int32).toInt = 127 from by decide]
  omega
/-- A' is A but that each place j of lo .. hi - 1 holds f j -/
def Laid (A A' : Cell) (lo hi : Nat) (f : Nat → Value) : Prop := A'.cls = A.cls ∧ A'.vm = A.vm ∧ A'.slots.size = A.slots.size ∧ ∀ i, A'.slots[i]? = if lo ≤ i ∧ i < hi then some (f i) else A.slots[i]?
theorem Laid.zero (A : Cell) (lo : Nat) (f : Nat → Value) : Laid A A lo (lo + 0) f := ⟨rfl, rfl, rfl, fun i => by rw [if_neg (by omega)]⟩
theorem Laid.step {A Ak : Cell} {lo k : Nat} {f : Nat → Value} {v : Value} (h : Laid A Ak lo k f) (hlo : lo ≤ k) (hk : k < Ak.slots.size) (hv : v = f k) : Laid A (Ak.setSlot k v) lo (k + 1) f := by
  refine ⟨h.1, h.2.1, by simpa [Cell.setSlot] using h.2.2.1, fun i => ?_⟩
  by_cases e : k = i
  · subst e; rw [Cell.slots_setSlot_self v hk, if_pos (by omega), hv]
  · rw [Cell.slots_setSlot_ne v e, h.2.2.2 i]
    by_cases q : lo ≤ i ∧ i < k
    · rw [if_pos q, if_pos (by omega)]
    · rw [if_neg q, if_neg (by omega)]
def U16 : String := "java/lang/StringUTF16"
namespace Cmp5
def yN : MethodName := ⟨"java/lang/StringUTF16", "compress", "([CI[BII)I"⟩
abbrev yB : ByteArray := jdk_52_method_21_code
theorem d0 : decode yB 0 = .ok (.iconst 0, 1) := by decide +kernel
theorem d1 : decode yB 1 = .ok (.istore 5, 2) := by decide +kernel
theorem d3 : decode yB 3 = .ok (.iload 5, 2) := by decide +kernel
theorem d5 : decode yB 5 = .ok (.iload 4, 2) := by decide +kernel
theorem d7 : decode yB 7 = .ok (.if_icmp (.ge) 37, 3) := by decide +kernel
theorem d10 : decode yB 10 = .ok (.aload_n 0, 1) := by decide +kernel
theorem d11 : decode yB 11 = .ok (.iload_n 1, 1) := by decide +kernel
theorem d12 : decode yB 12 = .ok (.caload, 1) := by decide +kernel
theorem d13 : decode yB 13 = .ok (.istore 6, 2) := by decide +kernel
theorem d15 : decode yB 15 = .ok (.iload 6, 2) := by decide +kernel
theorem d17 : decode yB 17 = .ok (.sipush 255, 3) := by decide +kernel
theorem d20 : decode yB 20 = .ok (.if_icmp (.le) 6, 3) := by decide +kernel
theorem d26 : decode yB 26 = .ok (.aload_n 2, 1) := by decide +kernel
theorem d27 : decode yB 27 = .ok (.iload_n 3, 1) := by decide +kernel
theorem d28 : decode yB 28 = .ok (.iload 6, 2) := by decide +kernel
theorem d30 : decode yB 30 = .ok (.i2b, 1) := by decide +kernel
theorem d31 : decode yB 31 = .ok (.bastore, 1) := by decide +kernel
theorem d32 : decode yB 32 = .ok (.iinc 1 1, 3) := by decide +kernel
theorem d35 : decode yB 35 = .ok (.iinc 3 1, 3) := by decide +kernel
theorem d38 : decode yB 38 = .ok (.iinc 5 1, 3) := by decide +kernel
theorem d41 : decode yB 41 = .ok (.goto (-38), 3) := by decide +kernel
theorem d44 : decode yB 44 = .ok (.iload 4, 2) := by decide +kernel
theorem d46 : decode yB 46 = .ok (.ireturn, 1) := by decide +kernel
def site : List Cond := []
def tab : Cond := tabOf yN yB 7 (some .int) site
def P (b : Addr) (A : Cell) (d : Addr) (B : Cell) (o q len : Nat) (args : Array Value) (s : State) : Prop := args = #[.ref b, .int (Int32.ofNat o), .ref d, .int (Int32.ofNat q), .int (Int32.ofNat len)] ∧ Ch b A s ∧ Arr .byte d B s ∧ b ≠ d ∧ o + len ≤ A.slots.size ∧ q + len ≤ B.slots.size ∧ ∀ i, i < len → ¬ 255 < cv A (o + i)
def E (b : Addr) (A : Cell) (d : Addr) (B : Cell) (o q len : Nat) (r : Option Value) (s u : State) : Prop := r = some (.int (Int32.ofNat len)) ∧ ∃ B', Put d B' s u ∧ Laid B B' q (q + len) (fun j => Value.int (lo8 (cv A (o + (j - q)))))
/-- no char of the range above 255: len; the places written hold each char's low byte -/
theorem law (l : Launch) (b : Addr) (A : Cell) (d : Addr) (B : Cell) (o q len : Nat) : Law l yN 5 5 0 0 yB 7 (some .int) site (P b A d B o q len) (E b A d B o q len) (copyLocs d q len) 0 0 := by
  refine Law.of_walk (plainFor_of_name (by decide +kernel)) (by decide +kernel) (by decide +kernel) (by decide) (fun _ _ h => by rw [h.1]; rfl) (fun _ U U' hal hh h => ⟨h.1, h.2.1.mv hal hh, h.2.2.1.mv hal hh, h.2.2.2⟩) (fun r U U' V V' h1 hal h2 h => ⟨h.1, h.2.elim fun B' q => ⟨B', q.1.mv h1 h2, q.2⟩⟩) ?_
  intro p e s m args below meth c s₁ X0 hexec hbytes hml hret hlk hnm hown hh0 W hP
  obtain ⟨rfl, hA, hB, hne, l1, l2, hp⟩ := hP
  have c1 : Steps p.tables e below (s₁.setTop (entryFrame m #[.ref b, .int (Int32.ofNat o), .ref d, .int (Int32.ofNat q), .int (Int32.ofNat len)] 7)) (s₁.setTop (mkF m 0 #[.val (.ref b), .val (.int (Int32.ofNat o)), .val (.ref d), .val (.int (Int32.ofNat q)), .val (.int (Int32.ofNat len)), .unset, .unset] [])) := entry rfl
  have hA0 := hA.1.mv X0.warmed.alike hh0
  have hB0 := hB.mv X0.warmed.alike hh0
  have a31 := hA.1.2.2.2
  have c2 : Steps p.tables e below (s₁.setTop (entryFrame m #[.ref b, .int (Int32.ofNat o), .ref d, .int (Int32.ofNat q), .int (Int32.ofNat len)] 7)) (s₁.setTop (mkF m 3 #[.val (.ref b), .val (.int (Int32.ofNat o)), .val (.ref d), .val (.int (Int32.ofNat q)), .val (.int (Int32.ofNat len)), .val (.int 0), .unset] [])) := c1.trans (by
    refine iconstV X0.here hexec rfl 0 (hb hbytes d0) (by decide) ?_
    refine XS.istore X0.here hexec rfl (hb hbytes d1) rfl rfl ?_
    exact Steps.refl _)
  have loop : ∀ (r i : Nat), i + r = len → ∀ (z : Slot), (z = .unset ∨ ∃ w, z = .val w ∧ w.category = 1) → ∀ (Tl : State) (Bk : Cell), Stand p l e { frames := 0, locals := 0, cells := 0, slots := 0 } s m #[.ref b, .int (Int32.ofNat o), .ref d, .int (Int32.ofNat q), .int (Int32.ofNat len)] below meth c Tl ([] ++ copyLocs d q i) 0 0 → Put d Bk s₁ Tl → Laid B Bk q (q + i) (fun j => Value.int (lo8 (cv A (o + (j - q))))) →
      Steps p.tables e below (s₁.setTop (entryFrame m #[.ref b, .int (Int32.ofNat o), .ref d, .int (Int32.ofNat q), .int (Int32.ofNat len)] 7)) (Tl.setTop (mkF m 3 #[.val (.ref b), .val (.int (Int32.ofNat (o + i))), .val (.ref d), .val (.int (Int32.ofNat (q + i))), .val (.int (Int32.ofNat len)), .val (.int (Int32.ofNat i)), z] [])) → ∃ (T' : State) (B' : Cell) (z' : Slot), Stand p l e { frames := 0, locals := 0, cells := 0, slots := 0 } s m #[.ref b, .int (Int32.ofNat o), .ref d, .int (Int32.ofNat q), .int (Int32.ofNat len)] below meth c T' ([] ++ copyLocs d q len) 0 0 ∧ Put d B' s₁ T' ∧ Laid B B' q (q + len) (fun j => Value.int (lo8 (cv A (o + (j - q))))) ∧
      Steps p.tables e below (s₁.setTop (entryFrame m #[.ref b, .int (Int32.ofNat o), .ref d, .int (Int32.ofNat q), .int (Int32.ofNat len)] 7)) (T'.setTop (mkF m 3 #[.val (.ref b), .val (.int (Int32.ofNat (o + len))), .val (.ref d), .val (.int (Int32.ofNat (q + len))), .val (.int (Int32.ofNat len)), .val (.int (Int32.ofNat len)), z'] [])) := by
    intro r
    induction r with
    | zero =>
      intro i hi z hz Tl Bk Xl pl fl cl
      have hil : i = len := by omega
      rw [hil] at Xl fl cl
      exact ⟨Tl, Bk, z, Xl, pl, fl, cl⟩
    | succ r ih =>
      intro i hi z hz Tl Bk Xl pl fl cl
      have all := X0.warmed.alike.symm.trans Xl.warmed.alike
      have hAl := hA0.keep all (pl.other hne hA0.1)
      have hBk := hB0.like all pl.1 fl.1 fl.2.1 fl.2.2.1
      have hlt : q + i < Bk.slots.size := by rw [fl.2.2.1]; omega
      have c3 : Steps p.tables e below (s₁.setTop (entryFrame m #[.ref b, .int (Int32.ofNat o), .ref d, .int (Int32.ofNat q), .int (Int32.ofNat len)] 7)) (Tl.setTop (mkF m 12 #[.val (.ref b), .val (.int (Int32.ofNat (o + i))), .val (.ref d), .val (.int (Int32.ofNat (q + i))), .val (.int (Int32.ofNat len)), .val (.int (Int32.ofNat i)), z] [.int (Int32.ofNat (o + i)), .ref b])) := cl.trans (by
        refine XS.iload Xl.here hexec rfl (hb hbytes d3) rfl ?_
        refine XS.iload Xl.here hexec rfl (hb hbytes d5) rfl ?_
        refine XS.icmpNo Xl.here hexec rfl (hb hbytes d7) rfl (ii_ge_f (lt32 (by omega) (by omega))) ?_
        refine XS.aloadN Xl.here hexec rfl (hb hbytes d10) rfl rfl ?_
        refine XS.iloadN Xl.here hexec rfl (hb hbytes d11) rfl ?_
        exact Steps.refl _)
      have c4 : Steps p.tables e below (s₁.setTop (entryFrame m #[.ref b, .int (Int32.ofNat o), .ref d, .int (Int32.ofNat q), .int (Int32.ofNat len)] 7)) (Tl.setTop (mkF m 13 #[.val (.ref b), .val (.int (Int32.ofNat (o + i))), .val (.ref d), .val (.int (Int32.ofNat (q + i))), .val (.int (Int32.ofNat len)), .val (.int (Int32.ofNat i)), z] [.int (cv A (o + i))])) := c3.trans (by
        refine Xl.aget hexec hAl rfl (hA.get (i := o + i) (by omega)) rfl rfl (hb hbytes d12) ?_
        exact Steps.refl _)
      have c5 : Steps p.tables e below (s₁.setTop (entryFrame m #[.ref b, .int (Int32.ofNat o), .ref d, .int (Int32.ofNat q), .int (Int32.ofNat len)] 7)) (Tl.setTop (mkF m 15 #[.val (.ref b), .val (.int (Int32.ofNat (o + i))), .val (.ref d), .val (.int (Int32.ofNat (q + i))), .val (.int (Int32.ofNat len)), .val (.int (Int32.ofNat i)), .val (.int (cv A (o + i)))] [])) := c4.trans (by
        refine XS.istoreS Xl.here hexec rfl (hb hbytes d13) rfl rfl hz ?_
        exact Steps.refl _)
      have c6 : Steps p.tables e below (s₁.setTop (entryFrame m #[.ref b, .int (Int32.ofNat o), .ref d, .int (Int32.ofNat q), .int (Int32.ofNat len)] 7)) (Tl.setTop (mkF m 31 #[.val (.ref b), .val (.int (Int32.ofNat (o + i))), .val (.ref d), .val (.int (Int32.ofNat (q + i))), .val (.int (Int32.ofNat len)), .val (.int (Int32.ofNat i)), .val (.int (cv A (o + i)))] [.int (lo8 (cv A (o + i))), .int (Int32.ofNat (q + i)), .ref d])) := c5.trans (by
        refine XS.iload Xl.here hexec rfl (hb hbytes d15) rfl ?_
        refine sipushV Xl.here hexec rfl 255 (hb hbytes d17) (by decide) ?_
        refine XS.icmpYes Xl.here hexec rfl (pc0 := 20) rfl (hb hbytes d20) rfl (ii_le_t (hp i (by omega))) (by decide) rfl ?_
        refine XS.aloadN Xl.here hexec rfl (hb hbytes d26) rfl rfl ?_
        refine XS.iloadN Xl.here hexec rfl (hb hbytes d27) rfl ?_
        refine XS.iload Xl.here hexec rfl (hb hbytes d28) rfl ?_
        refine i2b Xl.here hexec rfl (hb hbytes d30) rfl ?_
        exact Steps.refl _)
      obtain ⟨T7, X7, p7, st7⟩ := Xl.aput hexec hBk rfl hlt rfl (fits_lo8 (cv A (o + i))) (g := (mkF m 31 #[.val (.ref b), .val (.int (Int32.ofNat (o + i))), .val (.ref d), .val (.int (Int32.ofNat (q + i))), .val (.int (Int32.ofNat len)), .val (.int (Int32.ofNat i)), .val (.int (cv A (o + i)))] [.int (lo8 (cv A (o + i))), .int (Int32.ofNat (q + i)), .ref d])) rfl (rest := []) rfl (hb hbytes d31)
      have c8 : Steps p.tables e below (s₁.setTop (entryFrame m #[.ref b, .int (Int32.ofNat o), .ref d, .int (Int32.ofNat q), .int (Int32.ofNat len)] 7)) (T7.setTop (mkF m 32 #[.val (.ref b), .val (.int (Int32.ofNat (o + i))), .val (.ref d), .val (.int (Int32.ofNat (q + i))), .val (.int (Int32.ofNat len)), .val (.int (Int32.ofNat i)), .val (.int (cv A (o + i)))] [])) := c6.trans (st7 _ (Steps.refl _))
      have c9 : Steps p.tables e below (s₁.setTop (entryFrame m #[.ref b, .int (Int32.ofNat o), .ref d, .int (Int32.ofNat q), .int (Int32.ofNat len)] 7)) (T7.setTop (mkF m 3 #[.val (.ref b), .val (.int (Int32.ofNat (o + i) + 1)), .val (.ref d), .val (.int (Int32.ofNat (q + i) + 1)), .val (.int (Int32.ofNat len)), .val (.int (Int32.ofNat i + 1)), .val (.int (cv A (o + i)))] [])) := c8.trans (by
        refine iincV X7.here hexec rfl 1 (hb hbytes d32) (by decide) rfl rfl ?_
        refine iincV X7.here hexec rfl 1 (hb hbytes d35) (by decide) rfl rfl ?_
        refine iincV X7.here hexec rfl 1 (hb hbytes d38) (by decide) rfl rfl ?_
        refine XS.goto X7.here hexec rfl (pc0 := 41) rfl (hb hbytes d41) (by decide) rfl ?_
        exact Steps.refl _)
      have c10 : Steps p.tables e below (s₁.setTop (entryFrame m #[.ref b, .int (Int32.ofNat o), .ref d, .int (Int32.ofNat q), .int (Int32.ofNat len)] 7)) (T7.setTop (mkF m 3 #[.val (.ref b), .val (.int (Int32.ofNat (o + (i + 1)))), .val (.ref d), .val (.int (Int32.ofNat (q + (i + 1)))), .val (.int (Int32.ofNat len)), .val (.int (Int32.ofNat (i + 1))), .val (.int (cv A (o + i)))] [])) := by
        have := c9
        rw [succ32, succ32, succ32] at this
        exact this
      exact ih (i + 1) (by omega) _ (Or.inr ⟨_, rfl, rfl⟩) T7 _ (by rw [copyLocs_step, ← List.append_assoc]; exact X7) (pl.trans p7) (fl.step (by omega) hlt (by simp)) c10
  obtain ⟨T9, B9, z9, X9, p9, f9, g9⟩ := loop len 0 (by omega) .unset (Or.inl rfl) s₁ B (by simpa [copyLocs] using X0) ⟨hB0.1, fun _ _ => rfl, rfl⟩ (Laid.zero _ _ _) c2
  have c11 : Steps p.tables e below (s₁.setTop (entryFrame m #[.ref b, .int (Int32.ofNat o), .ref d, .int (Int32.ofNat q), .int (Int32.ofNat len)] 7)) (T9.setTop (mkF m 46 #[.val (.ref b), .val (.int (Int32.ofNat (o + len))), .val (.ref d), .val (.int (Int32.ofNat (q + len))), .val (.int (Int32.ofNat len)), .val (.int (Int32.ofNat len)), z9] [.int (Int32.ofNat len)])) := g9.trans (by
    refine XS.iload X9.here hexec rfl (hb hbytes d3) rfl ?_
    refine XS.iload X9.here hexec rfl (hb hbytes d5) rfl ?_
    refine XS.icmpYes X9.here hexec rfl (pc0 := 7) rfl (hb hbytes d7) rfl (ii_ge_t (nlt32 (by omega) (Nat.le_refl _))) (by decide) rfl ?_
    refine XS.iload X9.here hexec rfl (hb hbytes d44) rfl ?_
    exact Steps.refl _)
  exact ⟨T9, some (.int (Int32.ofNat len)), _, _, _, X9, by simp, rfl, rfl, (fun h => by cases h), ⟨rfl, B9, p9.from hh0, f9⟩, fun fs hl => c11.trans (X9.ireturnOut hexec hret rfl (Or.inl rfl) (hb hbytes d46) hl)⟩
end Cmp5
namespace Cmp3
def yN : MethodName := ⟨"java/lang/StringUTF16", "compress", "([CII)[B"⟩
abbrev yB : ByteArray := jdk_52_method_16_code
theorem d0 : decode yB 0 = .ok (.iload_n 2, 1) := by decide +kernel
theorem d1 : decode yB 1 = .ok (.newarray .byte, 2) := by decide +kernel
theorem d3 : decode yB 3 = .ok (.astore_n 3, 1) := by decide +kernel
theorem d4 : decode yB 4 = .ok (.aload_n 0, 1) := by decide +kernel
theorem d5 : decode yB 5 = .ok (.iload_n 1, 1) := by decide +kernel
theorem d6 : decode yB 6 = .ok (.aload_n 3, 1) := by decide +kernel
theorem d7 : decode yB 7 = .ok (.iconst 0, 1) := by decide +kernel
theorem d8 : decode yB 8 = .ok (.iload_n 2, 1) := by decide +kernel
theorem d9 : decode yB 9 = .ok (.invokestatic 115, 3) := by decide +kernel
theorem d12 : decode yB 12 = .ok (.istore 4, 2) := by decide +kernel
theorem d14 : decode yB 14 = .ok (.iload 4, 2) := by decide +kernel
theorem d16 : decode yB 16 = .ok (.iload_n 2, 1) := by decide +kernel
theorem d17 : decode yB 17 = .ok (.if_icmp (.eq) 40, 3) := by decide +kernel
theorem d57 : decode yB 57 = .ok (.aload_n 3, 1) := by decide +kernel
theorem d58 : decode yB 58 = .ok (.areturn, 1) := by decide +kernel
def site : List Cond := [.arrayClass .byte, Cmp5.tab] ++ staticW U16 115 Cmp5.yN
def tab : Cond := tabOf yN yB 6 (some (.array .byte)) site
def P (b : Addr) (A : Cell) (o len : Nat) (args : Array Value) (s : State) : Prop := args = #[.ref b, .int (Int32.ofNat o), .int (Int32.ofNat len)] ∧ Ch b A s ∧ o + len ≤ A.slots.size ∧ len ≤ 536870912 ∧ ∀ i, i < len → ¬ 255 < cv A (o + i)
def E (b : Addr) (A : Cell) (o len : Nat) (r : Option Value) (s u : State) : Prop := NewArr .byte "[B" len (fun j => .int (lo8 (cv A (o + j)))) r s u ∧ u.heap.size = s.heap.size + 1
/-- no char of the range above 255: a new byte[] of their low bytes -/
theorem law (l : Launch) (b : Addr) (A : Cell) (o len : Nat) : Law l yN 3 3 1 18 yB 6 (some (.array .byte)) site (P b A o len) (E b A o len) [] 1 len := by
  refine Law.of_walk (plainFor_of_name (by decide +kernel)) (by decide +kernel) (by decide +kernel) (by decide) (fun _ _ h => by rw [h.1]; rfl) (fun _ U U' hal hh h => ⟨h.1, h.2.1.mv hal hh, h.2.2⟩) (fun r U U' V V' h1 hal h2 h => ⟨NewArr.mv r U U' V V' h1 hal h2 h.1, by rw [h1, h2]; exact h.2⟩) ?_
  intro p e s m args below meth c s₁ X0 hexec hbytes hml hret hlk hnm hown hh0 W hP
  obtain ⟨rfl, hA, l1, l2, hp⟩ := hP
  have a31 := hA.1.2.2.2
  have c1 : Steps p.tables e below (s₁.setTop (entryFrame m #[.ref b, .int (Int32.ofNat o), .int (Int32.ofNat len)] 6)) (s₁.setTop (mkF m 0 #[.val (.ref b), .val (.int (Int32.ofNat o)), .val (.int (Int32.ofNat len)), .unset, .unset, .unset] [])) := entry rfl
  have c2 : Steps p.tables e below (s₁.setTop (entryFrame m #[.ref b, .int (Int32.ofNat o), .int (Int32.ofNat len)] 6)) (s₁.setTop (mkF m 1 #[.val (.ref b), .val (.int (Int32.ofNat o)), .val (.int (Int32.ofNat len)), .unset, .unset, .unset] [.int (Int32.ofNat len)])) := c1.trans (by
    refine XS.iloadN X0.here hexec rfl (hb hbytes d0) rfl ?_
    exact Steps.refl _)
  obtain ⟨T3, B3, X3, ba3, bs3, bv3, bh3, bf3, st3⟩ := X0.anew hexec (atype := .byte) (wk W (.arrayClass .byte)) rfl (by show len * 1 ≤ _; omega) (by omega) (g := (mkF m 1 #[.val (.ref b), .val (.int (Int32.ofNat o)), .val (.int (Int32.ofNat len)), .unset, .unset, .unset] [.int (Int32.ofNat len)])) rfl (hb hbytes d1) (rest := []) rfl (Nat.le_refl _) (by show 0 + len ≤ len; omega)
  rw [hh0] at ba3 st3
  have kp3 : XT.Kept s T3 := (XT.Kept.of_eq hh0).push bh3
  have hA3 := hA.keep X3.warmed.alike (kp3 _ _ hA.1.1)
  have hne : b ≠ s.heap.size := hA.1.ne
  have c4 : Steps p.tables e below (s₁.setTop (entryFrame m #[.ref b, .int (Int32.ofNat o), .int (Int32.ofNat len)] 6)) (T3.setTop (mkF m 3 #[.val (.ref b), .val (.int (Int32.ofNat o)), .val (.int (Int32.ofNat len)), .unset, .unset, .unset] [.ref s.heap.size])) := c2.trans (st3 _ (Steps.refl _))
  have c5 : Steps p.tables e below (s₁.setTop (entryFrame m #[.ref b, .int (Int32.ofNat o), .int (Int32.ofNat len)] 6)) (T3.setTop (mkF m 9 #[.val (.ref b), .val (.int (Int32.ofNat o)), .val (.int (Int32.ofNat len)), .val (.ref s.heap.size), .unset, .unset] [.int (Int32.ofNat len), .int 0, .ref s.heap.size, .int (Int32.ofNat o), .ref b])) := c4.trans (by
    refine XS.astoreN X3.here hexec rfl (hb hbytes d3) rfl rfl rfl ?_
    refine XS.aloadN X3.here hexec rfl (hb hbytes d4) rfl rfl ?_
    refine XS.iloadN X3.here hexec rfl (hb hbytes d5) rfl ?_
    refine XS.aloadN X3.here hexec rfl (hb hbytes d6) rfl rfl ?_
    refine iconstV X3.here hexec rfl 0 (hb hbytes d7) (by decide) ?_
    refine XS.iloadN X3.here hexec rfl (hb hbytes d8) rfl ?_
    exact Steps.refl _)
  obtain ⟨v6, T6, X6, E6, g6⟩ := X3.callS hexec (Cmp5.law l b A s.heap.size B3 o 0 len) hown (wks W (staticW U16 115 Cmp5.yN)) (wk W Cmp5.tab) (W := 0) (Nat.le_of_ble_eq_true rfl) (Nat.le_of_ble_eq_true rfl) (Nat.le_refl _) (by show 0 + len + 0 ≤ len; omega) (g := (mkF m 9 #[.val (.ref b), .val (.int (Int32.ofNat o)), .val (.int (Int32.ofNat len)), .val (.ref s.heap.size), .unset, .unset] [.int (Int32.ofNat len), .int (Int32.ofNat 0), .ref s.heap.size, .int (Int32.ofNat o), .ref b])) rfl (by rw [hml]; rfl) c5 (argsL := [.ref b, .int (Int32.ofNat o), .ref s.heap.size, .int (Int32.ofNat 0), .int (Int32.ofNat len)]) (rest := []) rfl rfl (by show 2 * 0 + 0 ≤ _; decide) (hb hbytes d9) (⟨rfl, hA3, ba3, hne, l1, by rw [bs3]; simp, hp⟩)
  obtain ⟨rfl, B6, p6, f6⟩ := E6
  have c7 : Steps p.tables e below (s₁.setTop (entryFrame m #[.ref b, .int (Int32.ofNat o), .int (Int32.ofNat len)] 6)) (T6.setTop (mkF m 12 #[.val (.ref b), .val (.int (Int32.ofNat o)), .val (.int (Int32.ofNat len)), .val (.ref s.heap.size), .unset, .unset] [.int (Int32.ofNat len)])) := g6
  have c8 : Steps p.tables e below (s₁.setTop (entryFrame m #[.ref b, .int (Int32.ofNat o), .int (Int32.ofNat len)] 6)) (T6.setTop (mkF m 58 #[.val (.ref b), .val (.int (Int32.ofNat o)), .val (.int (Int32.ofNat len)), .val (.ref s.heap.size), .val (.int (Int32.ofNat len)), .unset] [.ref s.heap.size])) := c7.trans (by
    refine XS.istore X6.here hexec rfl (hb hbytes d12) rfl rfl ?_
    refine XS.iload X6.here hexec rfl (hb hbytes d14) rfl ?_
    refine XS.iloadN X6.here hexec rfl (hb hbytes d16) rfl ?_
    refine XS.icmpYes X6.here hexec rfl (pc0 := 17) rfl (hb hbytes d17) rfl (ii_eq_t rfl) (by decide) rfl ?_
    refine XS.aloadN X6.here hexec rfl (hb hbytes d57) rfl rfl ?_
    exact Steps.refl _)
  have X8 := X6.wide (L' := []) (cells' := 1) (slots' := len) (fun x hx hlt => by
    simp only [List.nil_append, copyLocs, List.mem_map, List.mem_range] at hx
    obtain ⟨i, -, rfl⟩ := hx
    exact absurd hlt (Nat.lt_irrefl _)) (Nat.le_refl _) (by omega)
  exact ⟨T6, some (.ref s.heap.size), _, _, _, X8, rfl, rfl, rfl, (fun h => by cases h), ⟨⟨rfl, B6, ba3.like (X3.warmed.alike.symm.trans X6.warmed.alike) p6.1 f6.1 f6.2.1 f6.2.2.1, f6.2.1.trans bv3, by rw [X6.warmed.alike.findClass, f6.1]; exact bf3, by rw [f6.2.2.1, bs3]; simp, fun j hj => by rw [f6.2.2.2 j, if_pos (by omega)]; rfl, kp3.put p6 (Nat.le_refl _)⟩, by rw [p6.2.2, bh3, hh0]; simp⟩, fun fs hl => c8.trans (X8.areturnOut hexec rfl hret rfl (hb hbytes d58) hl)⟩
end Cmp3
namespace CodL
def yN : MethodName := ⟨"java/lang/StringUTF16", "coderFromArrayLen", "([BI)B"⟩
abbrev yB : ByteArray := jdk_52_method_15_code
theorem d0 : decode yB 0 = .ok (.iload_n 1, 1) := by decide +kernel
theorem d1 : decode yB 1 = .ok (.aload_n 0, 1) := by decide +kernel
theorem d2 : decode yB 2 = .ok (.arraylength, 1) := by decide +kernel
theorem d3 : decode yB 3 = .ok (.isub, 1) := by decide +kernel
theorem d4 : decode yB 4 = .ok (.bipush 31, 2) := by decide +kernel
theorem d6 : decode yB 6 = .ok (.iushr, 1) := by decide +kernel
theorem d7 : decode yB 7 = .ok (.i2b, 1) := by decide +kernel
theorem d8 : decode yB 8 = .ok (.ireturn, 1) := by decide +kernel
def site : List Cond := []
def tab : Cond := tabOf yN yB 2 (some .byte) site
def P (d : Addr) (B : Cell) (args : Array Value) (s : State) : Prop := args = #[.ref d, .int (Int32.ofNat B.slots.size)] ∧ Arr .byte d B s
def E (r : Option Value) (s u : State) : Prop := XT.PureE (some (.int 0)) r s u
/-- an array as long as the number of chars: LATIN1 -/
theorem law (l : Launch) (d : Addr) (B : Cell) : Law l yN 2 2 0 0 yB 2 (some .byte) site (P d B) E [] 0 0 := by
  refine Law.of_walk (plainFor_of_name (by decide +kernel)) (by decide +kernel) (by decide +kernel) (by decide) (fun _ _ h => by rw [h.1]; rfl) (fun _ U U' hal hh h => ⟨h.1, h.2.mv hal hh⟩) (fun r U U' V V' h1 hal h2 h => XT.PureE.mv r U U' V V' h1 hal h2 h) ?_
  intro p e s m args below meth c s₁ X0 hexec hbytes hml hret hlk hnm hown hh0 W hP
  obtain ⟨rfl, hB⟩ := hP
  have hB0 := hB.mv X0.warmed.alike hh0
  have c1 : Steps p.tables e below (s₁.setTop (entryFrame m #[.ref d, .int (Int32.ofNat B.slots.size)] 2)) (s₁.setTop (mkF m 0 #[.val (.ref d), .val (.int (Int32.ofNat B.slots.size))] [])) := entry rfl
  have c2 : Steps p.tables e below (s₁.setTop (entryFrame m #[.ref d, .int (Int32.ofNat B.slots.size)] 2)) (s₁.setTop (mkF m 2 #[.val (.ref d), .val (.int (Int32.ofNat B.slots.size))] [.ref d, .int (Int32.ofNat B.slots.size)])) := c1.trans (by
    refine XS.iloadN X0.here hexec rfl (hb hbytes d0) rfl ?_
    refine XS.aloadN X0.here hexec rfl (hb hbytes d1) rfl rfl ?_
    exact Steps.refl _)
  have c3 : Steps p.tables e below (s₁.setTop (entryFrame m #[.ref d, .int (Int32.ofNat B.slots.size)] 2)) (s₁.setTop (mkF m 8 #[.val (.ref d), .val (.int (Int32.ofNat B.slots.size))] [.int (lo8 (ushr (Int32.ofNat B.slots.size - Int32.ofNat B.slots.size) 31))])) := c2.trans (by
    refine X0.alen hexec hB0 rfl rfl (hb hbytes d2) ?_
    refine XS.isub X0.here hexec rfl (hb hbytes d3) rfl ?_
    refine bipushV X0.here hexec rfl 31 (hb hbytes d4) (by decide) ?_
    refine iushr X0.here hexec rfl (hb hbytes d6) rfl ?_
    refine i2b X0.here hexec rfl (hb hbytes d7) rfl ?_
    exact Steps.refl _)
  have e0 : lo8 (ushr (Int32.ofNat B.slots.size - Int32.ofNat B.slots.size) 31) = 0 := by rw [Int32.sub_self]; decide
  rw [e0] at c3
  exact ⟨s₁, some (.int 0), _, _, _, X0, rfl, rfl, rfl, (fun h => by cases h), ⟨rfl, hh0⟩, fun fs hl => c3.trans (X0.ireturnOut hexec hret rfl (Or.inr (Or.inr (Or.inl rfl))) (hb hbytes d8) hl)⟩
end CodL
/-- the String at a is Latin-1 over a new byte[] (the heap's one new cell): the low bytes of the len chars of A from o on; every cell but a is kept -/
def Got (a : Addr) (D : Cell) (fV fC : Field) (A : Cell) (o len : Nat) (r : Option Value) (s u : State) : Prop := r = none ∧ ∃ D' V : Cell, Blank "java/lang/String" a D' u ∧ Same D D' [fV.slot, fC.slot] ∧ D'.slots[fV.slot]? = some (.ref s.heap.size) ∧ D'.slots[fC.slot]? = some (.int 0) ∧ Arr .byte s.heap.size V u ∧ V.vm = .none ∧ u.vm.findClass "[B" = some V.cls ∧ V.slots.size = len ∧ (∀ j, j < len → V.slots[j]? = some (.int (lo8 (cv A (o + j))))) ∧ (∀ (y : Addr) (c : Cell), y ≠ a → s.heap[y]? = some c → u.heap[y]? = some c) ∧ u.heap.size = s.heap.size + 1
theorem Got.mv {a : Addr} {D A : Cell} {fV fC : Field} {o len : Nat} : ∀ r (U U' V V' : State), U'.heap = U.heap → V.vm.Alike V'.vm → V'.heap = V.heap → Got a D fV fC A o len r U V → Got a D fV fC A o len r U' V' :=
  fun r U U' V V' h1 hal h2 ⟨e0, D', X, a1, a2, a3, a4, a5, a6, a7, a8, a9, a10, a11⟩ => ⟨e0, D', X, a1.mv hal h2, a2, by rw [h1]; exact a3, a4, by rw [h1]; exact a5.mv hal h2, a6, by rw [hal.findClass]; exact a7, a8, a9, by rw [h1, h2]; exact a10, by rw [h1, h2]; exact a11⟩
namespace New4
def yN : MethodName := ⟨"java/lang/String", "<init>", "([CIILjava/lang/Void;)V"⟩
abbrev yB : ByteArray := jdk_42_method_149_code
theorem d0 : decode yB 0 = .ok (.aload_n 0, 1) := by decide +kernel
theorem d1 : decode yB 1 = .ok (.invokespecial 1, 3) := by decide +kernel
theorem d4 : decode yB 4 = .ok (.iload_n 3, 1) := by decide +kernel
theorem d5 : decode yB 5 = .ok (.ifCond (.ne) 22, 3) := by decide +kernel
theorem d27 : decode yB 27 = .ok (.getstatic 38, 3) := by decide +kernel
theorem d30 : decode yB 30 = .ok (.ifCond (.eq) 28, 3) := by decide +kernel
theorem d33 : decode yB 33 = .ok (.aload_n 1, 1) := by decide +kernel
theorem d34 : decode yB 34 = .ok (.iload_n 2, 1) := by decide +kernel
theorem d35 : decode yB 35 = .ok (.iload_n 3, 1) := by decide +kernel
theorem d36 : decode yB 36 = .ok (.invokestatic 177, 3) := by decide +kernel
theorem d39 : decode yB 39 = .ok (.astore 5, 2) := by decide +kernel
theorem d41 : decode yB 41 = .ok (.aload_n 0, 1) := by decide +kernel
theorem d42 : decode yB 42 = .ok (.aload 5, 2) := by decide +kernel
theorem d44 : decode yB 44 = .ok (.iload_n 3, 1) := by decide +kernel
theorem d45 : decode yB 45 = .ok (.invokestatic 47, 3) := by decide +kernel
theorem d48 : decode yB 48 = .ok (.putfield 15, 3) := by decide +kernel
theorem d51 : decode yB 51 = .ok (.aload_n 0, 1) := by decide +kernel
theorem d52 : decode yB 52 = .ok (.aload 5, 2) := by decide +kernel
theorem d54 : decode yB 54 = .ok (.putfield 9, 3) := by decide +kernel
theorem d57 : decode yB 57 = .ok (.return_, 1) := by decide +kernel
def site : List Cond := [.fieldLink "java/lang/String" 38 "java/lang/String" "COMPACT_STRINGS" "Z", Cmp3.tab, CodL.tab, .laysFinal "java/lang/String" "java/lang/String" "value" "[B", .fieldLink "java/lang/String" 9 "java/lang/String" "value" "[B", .laysFinal "java/lang/String" "java/lang/String" "coder" "B", .fieldLink "java/lang/String" 15 "java/lang/String" "coder" "B"] ++ objW "java/lang/String" 1 ++ staticW "java/lang/String" 177 Cmp3.yN ++ staticW "java/lang/String" 47 CodL.yN
def tab : Cond := tabOf yN yB 6 none site
def P (a : Addr) (D : Cell) (fV fC : Field) (b : Addr) (A : Cell) (z : Int32) (o len : Nat) (args : Array Value) (s : State) : Prop := args = #[.ref a, .ref b, .int (Int32.ofNat o), .int (Int32.ofNat len), .null] ∧ Blank "java/lang/String" a D s ∧ Found "java/lang/String" "value" "[B" fV s ∧ Found "java/lang/String" "coder" "B" fC s ∧ Ch b A s ∧ StaticIs s "java/lang/String" "COMPACT_STRINGS" "Z" (.int z) ∧ ¬ z = 0 ∧ 0 < len ∧ o + len ≤ A.slots.size ∧ len ≤ 536870912 ∧ ∀ i, i < len → ¬ 255 < cv A (o + i)
def E (a : Addr) (D : Cell) (fV fC : Field) (A : Cell) (o len : Nat) (r : Option Value) (s u : State) : Prop := Got a D fV fC A o len r s u
/-- len > 0, no char of the range above 255: a Latin-1 String of their low bytes -/
theorem law (l : Launch) (a : Addr) (D : Cell) (fV fC : Field) (b : Addr) (A : Cell) (z : Int32) (o len : Nat) : Law l yN 5 4 2 35 yB 6 none site (P a D fV fC b A z o len) (E a D fV fC A o len) [⟨a, fC.slot⟩, ⟨a, fV.slot⟩] 1 len := by
  refine Law.of_walk (plainFor_of_name (by decide +kernel)) (by decide +kernel) (by decide +kernel) (by decide) (fun _ _ h => by rw [h.1]; rfl) (fun _ U U' hal hh h => ⟨h.1, h.2.1.mv hal hh, h.2.2.1.al hal, h.2.2.2.1.al hal, h.2.2.2.2.1.mv hal hh, h.2.2.2.2.2.1.there hal hh, h.2.2.2.2.2.2⟩) (fun r U U' V V' h1 hal h2 h => Got.mv r U U' V V' h1 hal h2 h) ?_
  intro p e s m args below meth c s₁ X0 hexec hbytes hml hret hlk hnm hown hh0 W hP
  obtain ⟨rfl, hB, f1, f2, hA, s1, hz, l0, l1, l2, hp⟩ := hP
  have a31 := hA.1.2.2.2
  have c1 : Steps p.tables e below (s₁.setTop (entryFrame m #[.ref a, .ref b, .int (Int32.ofNat o), .int (Int32.ofNat len), .null] 6)) (s₁.setTop (mkF m 0 #[.val (.ref a), .val (.ref b), .val (.int (Int32.ofNat o)), .val (.int (Int32.ofNat len)), .val .null, .unset] [])) := entry rfl
  have c2 : Steps p.tables e below (s₁.setTop (entryFrame m #[.ref a, .ref b, .int (Int32.ofNat o), .int (Int32.ofNat len), .null] 6)) (s₁.setTop (mkF m 1 #[.val (.ref a), .val (.ref b), .val (.int (Int32.ofNat o)), .val (.int (Int32.ofNat len)), .val .null, .unset] [.ref a])) := c1.trans (by
    refine XS.aloadN X0.here hexec rfl (hb hbytes d0) rfl rfl ?_
    exact Steps.refl _)
  obtain ⟨T3, X3, q3, st3⟩ := X0.oinit hexec hown (wks W (objW "java/lang/String" 1)) (g := (mkF m 1 #[.val (.ref a), .val (.ref b), .val (.int (Int32.ofNat o)), .val (.int (Int32.ofNat len)), .val .null, .unset] [.ref a])) rfl (by rw [hml]; rfl) (rest := []) rfl (hb hbytes d1) (W := 0) (by show 2 * 0 + 0 ≤ _; decide) (Nat.le_of_ble_eq_true rfl) (Nat.le_of_ble_eq_true rfl)
  have hh3 := q3.trans hh0
  have c4 : Steps p.tables e below (s₁.setTop (entryFrame m #[.ref a, .ref b, .int (Int32.ofNat o), .int (Int32.ofNat len), .null] 6)) (T3.setTop (mkF m 27 #[.val (.ref a), .val (.ref b), .val (.int (Int32.ofNat o)), .val (.int (Int32.ofNat len)), .val .null, .unset] [])) := (c2.trans (st3 _ (Steps.refl _))).trans (by
    refine XS.iloadN X3.here hexec rfl (hb hbytes d4) rfl ?_
    refine XS.ifYes X3.here hexec rfl (pc0 := 5) rfl (hb hbytes d5) rfl (i0_ne_t (nz32 (by omega) l0)) (by decide) rfl ?_
    exact Steps.refl _)
  obtain ⟨T5, X5, q5, st5⟩ := X3.sget hexec hown (wk W (.fieldLink "java/lang/String" 38 "java/lang/String" "COMPACT_STRINGS" "Z")) s1 (fun _ _ h => by rw [hh3]; exact h) (g := (mkF m 27 #[.val (.ref a), .val (.ref b), .val (.int (Int32.ofNat o)), .val (.int (Int32.ofNat len)), .val .null, .unset] [])) rfl (hb hbytes d27)
  have hh5 := q5.trans hh3
  have c6 : Steps p.tables e below (s₁.setTop (entryFrame m #[.ref a, .ref b, .int (Int32.ofNat o), .int (Int32.ofNat len), .null] 6)) (T5.setTop (mkF m 30 #[.val (.ref a), .val (.ref b), .val (.int (Int32.ofNat o)), .val (.int (Int32.ofNat len)), .val .null, .unset] [.int z])) := c4.trans (st5 _ (Steps.refl _))
  have c7 : Steps p.tables e below (s₁.setTop (entryFrame m #[.ref a, .ref b, .int (Int32.ofNat o), .int (Int32.ofNat len), .null] 6)) (T5.setTop (mkF m 36 #[.val (.ref a), .val (.ref b), .val (.int (Int32.ofNat o)), .val (.int (Int32.ofNat len)), .val .null, .unset] [.int (Int32.ofNat len), .int (Int32.ofNat o), .ref b])) := c6.trans (by
    refine XS.ifNo X5.here hexec rfl (hb hbytes d30) rfl (i0_eq_f hz) ?_
    refine XS.aloadN X5.here hexec rfl (hb hbytes d33) rfl rfl ?_
    refine XS.iloadN X5.here hexec rfl (hb hbytes d34) rfl ?_
    refine XS.iloadN X5.here hexec rfl (hb hbytes d35) rfl ?_
    exact Steps.refl _)
  obtain ⟨v8, T8, X8, E8, g8⟩ := X5.callS hexec (Cmp3.law l b A o len) hown (wks W (staticW "java/lang/String" 177 Cmp3.yN)) (wk W Cmp3.tab) (W := 0) (Nat.le_of_ble_eq_true rfl) (Nat.le_of_ble_eq_true rfl) (Nat.le_refl _) (by show 0 + len ≤ len; omega) (g := (mkF m 36 #[.val (.ref a), .val (.ref b), .val (.int (Int32.ofNat o)), .val (.int (Int32.ofNat len)), .val .null, .unset] [.int (Int32.ofNat len), .int (Int32.ofNat o), .ref b])) rfl (by rw [hml]; rfl) c7 (argsL := [.ref b, .int (Int32.ofNat o), .int (Int32.ofNat len)]) (rest := []) rfl rfl (by show 2 * 0 + 0 ≤ _; decide) (hb hbytes d36) (⟨rfl, hA.mv X5.warmed.alike hh5, l1, l2, hp⟩)
  obtain ⟨e8, z8⟩ := E8
  obtain ⟨rfl, N, n1, n2, n3, n4, n5, n6⟩ := NewArr.mv _ T5 s _ _ hh5.symm (Vm.Alike.refl _) rfl e8
  rw [hh5] at z8
  have hB1 := hB.keep X8.warmed.alike (n6 _ _ hB.1)
  have hne : s.heap.size ≠ a := (Nat.ne_of_lt (Array.getElem?_eq_some_iff.mp hB.1).1).symm
  have c9 : Steps p.tables e below (s₁.setTop (entryFrame m #[.ref a, .ref b, .int (Int32.ofNat o), .int (Int32.ofNat len), .null] 6)) (T8.setTop (mkF m 39 #[.val (.ref a), .val (.ref b), .val (.int (Int32.ofNat o)), .val (.int (Int32.ofNat len)), .val .null, .unset] [.ref s.heap.size])) := g8
  have c10 : Steps p.tables e below (s₁.setTop (entryFrame m #[.ref a, .ref b, .int (Int32.ofNat o), .int (Int32.ofNat len), .null] 6)) (T8.setTop (mkF m 45 #[.val (.ref a), .val (.ref b), .val (.int (Int32.ofNat o)), .val (.int (Int32.ofNat len)), .val .null, .val (.ref s.heap.size)] [.int (Int32.ofNat N.slots.size), .ref s.heap.size, .ref a])) := by
    have hc : Steps p.tables e below (s₁.setTop (entryFrame m #[.ref a, .ref b, .int (Int32.ofNat o), .int (Int32.ofNat len), .null] 6)) (T8.setTop (mkF m 45 #[.val (.ref a), .val (.ref b), .val (.int (Int32.ofNat o)), .val (.int (Int32.ofNat len)), .val .null, .val (.ref s.heap.size)] [.int (Int32.ofNat len), .ref s.heap.size, .ref a])) := c9.trans (by
      refine XS.astore X8.here hexec rfl (hb hbytes d39) rfl rfl rfl ?_
      refine XS.aloadN X8.here hexec rfl (hb hbytes d41) rfl rfl ?_
      refine XS.aload X8.here hexec rfl (hb hbytes d42) rfl rfl ?_
      refine XS.iloadN X8.here hexec rfl (hb hbytes d44) rfl ?_
      exact Steps.refl _)
    rw [n4]; exact hc
  obtain ⟨v11, T11, X11, E11, g11⟩ := X8.callS hexec (CodL.law l s.heap.size N) hown (wks W (staticW "java/lang/String" 47 CodL.yN)) (wk W CodL.tab) (W := 1) (Nat.le_of_ble_eq_true rfl) (Nat.le_of_ble_eq_true rfl) (Nat.le_refl _) (by show 0 + len + 0 ≤ len; omega) (g := (mkF m 45 #[.val (.ref a), .val (.ref b), .val (.int (Int32.ofNat o)), .val (.int (Int32.ofNat len)), .val .null, .val (.ref s.heap.size)] [.int (Int32.ofNat N.slots.size), .ref s.heap.size, .ref a])) rfl (by rw [hml]; rfl) c10 (argsL := [.ref s.heap.size, .int (Int32.ofNat N.slots.size)]) (rest := [.ref a]) rfl rfl (by show 2 * 0 + (1 + 0) ≤ _; decide) (hb hbytes d45) (⟨rfl, n1⟩)
  obtain ⟨rfl, q11⟩ := E11
  have hB11 := hB1.mv (X8.warmed.alike.symm.trans X11.warmed.alike) q11
  have c12 : Steps p.tables e below (s₁.setTop (entryFrame m #[.ref a, .ref b, .int (Int32.ofNat o), .int (Int32.ofNat len), .null] 6)) (T11.setTop (mkF m 48 #[.val (.ref a), .val (.ref b), .val (.int (Int32.ofNat o)), .val (.int (Int32.ofNat len)), .val .null, .val (.ref s.heap.size)] [.int 0, .ref a])) := g11
  obtain ⟨T13, X13, p13, bl13, sl13, st13⟩ := X11.finit hexec hown (wk W (.fieldLink "java/lang/String" 15 "java/lang/String" "coder" "B")) (Or.inr ⟨_, (wk W (.laysFinal "java/lang/String" "java/lang/String" "coder" "B"))⟩) (Or.inl ⟨rfl, hnm⟩) f2 (Or.inl rfl) hB11 (t := .byte) (by decide +kernel) rfl (g := (mkF m 48 #[.val (.ref a), .val (.ref b), .val (.int (Int32.ofNat o)), .val (.int (Int32.ofNat len)), .val .null, .val (.ref s.heap.size)] [.int 0, .ref a])) rfl (rest := []) rfl (hb hbytes d48)
  have c14 : Steps p.tables e below (s₁.setTop (entryFrame m #[.ref a, .ref b, .int (Int32.ofNat o), .int (Int32.ofNat len), .null] 6)) (T13.setTop (mkF m 54 #[.val (.ref a), .val (.ref b), .val (.int (Int32.ofNat o)), .val (.int (Int32.ofNat len)), .val .null, .val (.ref s.heap.size)] [.ref s.heap.size, .ref a])) := (c12.trans (st13 _ (Steps.refl _))).trans (by
    refine XS.aloadN X13.here hexec rfl (hb hbytes d51) rfl rfl ?_
    refine XS.aload X13.here hexec rfl (hb hbytes d52) rfl rfl ?_
    exact Steps.refl _)
  obtain ⟨T15, X15, p15, bl15, sl15, st15⟩ := X13.finit hexec hown (wk W (.fieldLink "java/lang/String" 9 "java/lang/String" "value" "[B")) (Or.inr ⟨_, (wk W (.laysFinal "java/lang/String" "java/lang/String" "value" "[B"))⟩) (Or.inl ⟨rfl, hnm⟩) f1 (Or.inl rfl) bl13 (t := (.array .byte)) (by decide +kernel) rfl (g := (mkF m 54 #[.val (.ref a), .val (.ref b), .val (.int (Int32.ofNat o)), .val (.int (Int32.ofNat len)), .val .null, .val (.ref s.heap.size)] [.ref s.heap.size, .ref a])) rfl (rest := []) rfl (hb hbytes d54)
  have c16 : Steps p.tables e below (s₁.setTop (entryFrame m #[.ref a, .ref b, .int (Int32.ofNat o), .int (Int32.ofNat len), .null] 6)) (T15.setTop (mkF m 57 #[.val (.ref a), .val (.ref b), .val (.int (Int32.ofNat o)), .val (.int (Int32.ofNat len)), .val .null, .val (.ref s.heap.size)] [])) := c14.trans (st15 _ (Steps.refl _))
  have ap := apart (Or.inr ⟨_, (wk W (.laysFinal "java/lang/String" "java/lang/String" "value" "[B"))⟩) (Or.inr ⟨_, (wk W (.laysFinal "java/lang/String" "java/lang/String" "coder" "B"))⟩) f1 f2 (t₁ := .array .byte) (t₂ := .byte) (by decide +kernel) (by decide +kernel) (by decide)
  have al := X8.warmed.alike.symm.trans X15.warmed.alike
  have n7 : T11.heap[s.heap.size]? = some N := by rw [q11]; exact n1.1
  exact ⟨T15, none, _, _, _, X15, by simp, rfl, by omega, (fun _ => rfl), ⟨rfl, _, N, bl15, ((Same.refl D _).set _ (by simp)).set _ (by simp), sl15, (Cell.slots_setSlot_ne _ ap).trans sl13, n1.keep al (p15.other hne (p13.other hne n7)), n2, by rw [al.findClass]; exact n3, n4, n5, fun y c h1 h2 => p15.other h1 (p13.other h1 (by rw [q11]; exact n6 y c h2)), by rw [p15.2.2, p13.2.2, q11]; exact z8⟩, fun fs hl => c16.trans (X15.returnOut hexec hret (hb hbytes d57) hl)⟩
end New4
namespace New1
def yN : MethodName := ⟨"java/lang/String", "<init>", "([C)V"⟩
abbrev yB : ByteArray := jdk_42_method_3_code
theorem d0 : decode yB 0 = .ok (.aload_n 0, 1) := by decide +kernel
theorem d1 : decode yB 1 = .ok (.aload_n 1, 1) := by decide +kernel
theorem d2 : decode yB 2 = .ok (.iconst 0, 1) := by decide +kernel
theorem d3 : decode yB 3 = .ok (.aload_n 1, 1) := by decide +kernel
theorem d4 : decode yB 4 = .ok (.arraylength, 1) := by decide +kernel
theorem d5 : decode yB 5 = .ok (.aconst_null, 1) := by decide +kernel
theorem d6 : decode yB 6 = .ok (.invokespecial 27, 3) := by decide +kernel
theorem d9 : decode yB 9 = .ok (.return_, 1) := by decide +kernel
def site : List Cond := [New4.tab] ++ initW "java/lang/String" 27 New4.yN
def tab : Cond := tabOf yN yB 2 none site
def P (a : Addr) (D : Cell) (fV fC : Field) (b : Addr) (A : Cell) (z : Int32) (args : Array Value) (s : State) : Prop := args = #[.ref a, .ref b] ∧ Blank "java/lang/String" a D s ∧ Found "java/lang/String" "value" "[B" fV s ∧ Found "java/lang/String" "coder" "B" fC s ∧ Ch b A s ∧ StaticIs s "java/lang/String" "COMPACT_STRINGS" "Z" (.int z) ∧ ¬ z = 0 ∧ 0 < A.slots.size ∧ A.slots.size ≤ 536870912 ∧ ∀ i, i < A.slots.size → ¬ 255 < cv A i
def E (a : Addr) (D : Cell) (fV fC : Field) (A : Cell) (r : Option Value) (s u : State) : Prop := Got a D fV fC A 0 A.slots.size r s u
/-- new String(chars), not empty, no char above 255: a Latin-1 String of their low bytes -/
theorem law (l : Launch) (a : Addr) (D : Cell) (fV fC : Field) (b : Addr) (A : Cell) (z : Int32) : Law l yN 2 1 3 52 yB 2 none site (P a D fV fC b A z) (E a D fV fC A) [⟨a, fC.slot⟩, ⟨a, fV.slot⟩] 1 A.slots.size := by
  refine Law.of_walk (plainFor_of_name (by decide +kernel)) (by decide +kernel) (by decide +kernel) (by decide) (fun _ _ h => by rw [h.1]; rfl) (fun _ U U' hal hh h => ⟨h.1, h.2.1.mv hal hh, h.2.2.1.al hal, h.2.2.2.1.al hal, h.2.2.2.2.1.mv hal hh, h.2.2.2.2.2.1.there hal hh, h.2.2.2.2.2.2⟩) (fun r U U' V V' h1 hal h2 h => Got.mv r U U' V V' h1 hal h2 h) ?_
  intro p e s m args below meth c s₁ X0 hexec hbytes hml hret hlk hnm hown hh0 W hP
  obtain ⟨rfl, hB, f1, f2, hA, s1, hz, l0, l2, hp⟩ := hP
  have c1 : Steps p.tables e below (s₁.setTop (entryFrame m #[.ref a, .ref b] 2)) (s₁.setTop (mkF m 0 #[.val (.ref a), .val (.ref b)] [])) := entry rfl
  have c2 : Steps p.tables e below (s₁.setTop (entryFrame m #[.ref a, .ref b] 2)) (s₁.setTop (mkF m 6 #[.val (.ref a), .val (.ref b)] [.null, .int (Int32.ofNat A.slots.size), .int 0, .ref b, .ref a])) := c1.trans (by
    refine XS.aloadN X0.here hexec rfl (hb hbytes d0) rfl rfl ?_
    refine XS.aloadN X0.here hexec rfl (hb hbytes d1) rfl rfl ?_
    refine iconstV X0.here hexec rfl 0 (hb hbytes d2) (by decide) ?_
    refine XS.aloadN X0.here hexec rfl (hb hbytes d3) rfl rfl ?_
    refine X0.alen hexec (hA.1.mv X0.warmed.alike hh0) rfl rfl (hb hbytes d4) ?_
    refine XS.aconstNull X0.here hexec rfl (hb hbytes d5) ?_
    exact Steps.refl _)
  obtain ⟨v3, T3, X3, E3, g3⟩ := X0.callN hexec (New4.law l a D fV fC b A z 0 A.slots.size) rfl hown (wks W (initW "java/lang/String" 27 New4.yN)) (W New4.tab (by simp only [site, List.mem_cons, List.mem_append, true_or, or_true])) (W := 0) (Nat.le_of_ble_eq_true rfl) (Nat.le_of_ble_eq_true rfl) (Nat.le_refl _) (by show 0 + A.slots.size ≤ A.slots.size; omega) (g := (mkF m 6 #[.val (.ref a), .val (.ref b)] [.null, .int (Int32.ofNat A.slots.size), .int (Int32.ofNat 0), .ref b, .ref a])) rfl (by rw [hml]; rfl) c2 (argsL := [.ref b, .int (Int32.ofNat 0), .int (Int32.ofNat A.slots.size), .null]) (rest := []) rfl rfl (by show 2 * 0 + 0 ≤ _; decide) (hb hbytes d6) (⟨rfl, hB.mv X0.warmed.alike hh0, f1.al X0.warmed.alike, f2.al X0.warmed.alike, hA.mv X0.warmed.alike hh0, s1.there X0.warmed.alike hh0, hz, l0, by omega, l2, fun i hi => by rw [Nat.zero_add]; exact hp i hi⟩)
  have e0 := Got.mv _ s₁ s _ _ hh0.symm (Vm.Alike.refl _) rfl E3
  obtain rfl := e0.1
  have c4 : Steps p.tables e below (s₁.setTop (entryFrame m #[.ref a, .ref b] 2)) (T3.setTop (mkF m 9 #[.val (.ref a), .val (.ref b)] [])) := g3
  exact ⟨T3, none, _, _, _, X3, by simp, rfl, by omega, (fun _ => rfl), e0, fun fs hl => c4.trans (X3.returnOut hexec hret (hb hbytes d9) hl)⟩
theorem pays {l : Launch} {R : Room} {p : Program} {e : Env} {below : List Frame} {s : State} {sargs : Array Value} {len W : Nat} (a : Addr) (D : Cell) (fV fC : Field) (b : Addr) (A : Cell) (z : Int32) (htab : tab.before sargs s = true) (hfr : 4 ≤ R.frames) (hlo : W + 65 ≤ R.locals) :
    Back l R p e below s sargs yN len W (fun A₁ a₁ => A₁.cells + 1 ≤ R.cells ∧ A₁.slots + A.slots.size ≤ R.slots ∧ P a D fV fC b A z a₁ A₁.U) (fun A₁ _ v₁ B₁ => E a D fV fC A v₁ A₁.U B₁.U ∧ B₁.locs = A₁.locs ++ [⟨a, fC.slot⟩, ⟨a, fV.slot⟩] ∧ B₁.cells = A₁.cells + 1 ∧ B₁.slots = A₁.slots + A.slots.size) :=
  (law l a D fV fC b A z).pays htab hfr (by omega)
end New1
/-- the byte, read back as charAt reads it, is the char -/
theorem lo8_mask {x : Int32} (h0 : ¬ x < 0) (h1 : ¬ 255 < x) : lo8 x &&& 255 = x := by
  have t : ∀ k : Fin 256, lo8 (Int32.ofNat k.val) &&& 255 = Int32.ofNat k.val := by decide +kernel
  rw [Int32.lt_iff_toInt_lt] at h0 h1
  have e0 : (0 : Int32).toInt = 0 := rfl
  have e1 : (255 : Int32).toInt = 255 := rfl
  obtain ⟨k, hk⟩ : ∃ k : Nat, x.toInt = k := ⟨x.toInt.toNat, by omega⟩
  have hx : x = Int32.ofNat k := Int32.toInt_inj.mp (by rw [hk, Int32.toInt_ofNat_small (by omega)])
  rw [hx]
  exact t ⟨k, by omega⟩
end StrChars
namespace StrChars.Road
open Jvm Sem ClassFile Op Lib Jvm.Stand Jvm.Free Jvm.Free.XT
open Jvm.Lib.Cold (StaticIs)
abbrev ST : String := "java/lang/String"
/-- every table word that New1's law asks, flat -/
abbrev words : List Jvm.Cond := [.code New1.yN New1.yB 2 none, .initialized ST, .methodLink ST 27 New4.yN, .instanceMethod New4.yN,
  .code New4.yN New4.yB 6 none, .fieldLink ST 38 ST "COMPACT_STRINGS" "Z", .laysFinal ST ST "value" "[B", .fieldLink ST 9 ST "value" "[B", .laysFinal ST ST "coder" "B", .fieldLink ST 15 ST "coder" "B",
  .methodLink ST 1 Lib.objectInit, .instanceMethod Lib.objectInit, .code Lib.objectInit ⟨#[0xb1]⟩ 1 none, .methodLink ST 177 Cmp3.yN, .static Cmp3.yN, .methodLink ST 47 CodL.yN, .static CodL.yN,
  .code Cmp3.yN Cmp3.yB 6 (some (.array .byte)), .initialized U16, .arrayClass .byte, .methodLink U16 115 Cmp5.yN, .static Cmp5.yN, .code Cmp5.yN Cmp5.yB 7 (some .int), .code CodL.yN CodL.yB 2 (some .byte)]
theorem tab_of {a : Array Value} {s : State} (h : ∀ w ∈ words, w.before a s = true) : New1.tab.before a s = true := by
  have h5 : Cmp5.tab.before a s = true := unparts (wk h (.code Cmp5.yN Cmp5.yB 7 (some .int))) (wks h (.initialized Cmp5.yN.cls :: Cmp5.site))
  have hc : CodL.tab.before a s = true := unparts (wk h (.code CodL.yN CodL.yB 2 (some .byte))) (wks h (.initialized CodL.yN.cls :: CodL.site))
  have q5 : ∀ w ∈ Cmp5.tab :: words, w.before a s = true := fun w hw => (List.mem_cons.mp hw).elim (fun e => e ▸ h5) (h w)
  have h3 : Cmp3.tab.before a s = true := unparts (wk q5 (.code Cmp3.yN Cmp3.yB 6 (some (.array .byte)))) (wks q5 (.initialized Cmp3.yN.cls :: Cmp3.site))
  have q3 : ∀ w ∈ Cmp3.tab :: CodL.tab :: words, w.before a s = true := fun w hw => (List.mem_cons.mp hw).elim (fun e => e ▸ h3) fun hw => (List.mem_cons.mp hw).elim (fun e => e ▸ hc) (h w)
  have h4 : New4.tab.before a s = true := unparts (wk q3 (.code New4.yN New4.yB 6 none)) (wks q3 (.initialized New4.yN.cls :: New4.site))
  have q4 : ∀ w ∈ New4.tab :: words, w.before a s = true := fun w hw => (List.mem_cons.mp hw).elim (fun e => e ▸ h4) (h w)
  exact unparts (wk q4 (.code New1.yN New1.yB 2 none)) (wks q4 (.initialized New1.yN.cls :: New1.site))
/-- the words ride from the start Z to the walk's own state -/
theorem moved {Z s : State} {a0 args : Array Value} (hZ : Z.Warmed39 s.vm) (hw : ∀ d ∈ words, d.before a0 Z = true) : ∀ d ∈ words, d.before args s = true := fun d hd => by
  have q := hw d hd
  have t : ∀ d ∈ words, d = .arrayClass .byte ∨ (d.onTables && d.keepsFace) = true := by decide +kernel
  rcases t d hd with rfl | t
  · exact RoadKit.mvA hZ q
  · exact RoadKit.mv hZ q t
/-- WHAT COMES BACK, over the tables of the start Z: h the heap at the call, h' behind it -/
def Q (Z : State) (x : Addr) (A : Cell) (h : Heap) (v : Option Value) (h' : Heap) (L : List Loc) : Prop := v = none ∧ (∀ y ∈ L, y.base = x) ∧ RoadKit.Keep h h' [x] ∧ h'.size = h.size + 1 ∧ RoadKit.Exa Z h' x ST ∧ RoadKit.Fld Z h' x ST "value" "[B" (.ref h.size) ∧ RoadKit.Fld Z h' x ST "coder" "B" (.int 0) ∧
  (∃ V : Cell, RoadKit.Arr Z h' h.size V .byte ∧ V.vm = .none ∧ Z.vm.findClass "[B" = some V.cls ∧ V.slots.size = A.slots.size ∧ ∀ j, j < A.slots.size → V.slots[j]? = some (.int (lo8 (cv A j)))) ∧
  ∀ (O n d : String) (w : Value), RoadKit.Fld Z h x O n d w → RoadKit.slotOf Z O n d ≠ RoadKit.slotOf Z ST "value" "[B" → RoadKit.slotOf Z O n d ≠ RoadKit.slotOf Z ST "coder" "B" → RoadKit.Fld Z h' x O n d w
/-- **new String(chars) AT A CALL, IN THE ROAD'S FORM**: for specialBack behind newO: x the fresh String, b the char[] with the cell A -/
theorem back {p : Program} {l : Launch} {e : Env} {R : Room} {s : State} {args : Array Value} {below : List Frame} {len W : Nat} {Z : State} {a0 : Array Value} {h : Heap} (hZ : Z.Warmed39 s.vm) (hw : ∀ d ∈ words, d.before a0 Z = true) {kI : Nat} (wi : (Jvm.Cond.instantiable ST kI).before a0 Z = true)
    {x b : Addr} {A : Cell} {z : Int32} {v0 c0 : Value} (E : RoadKit.Exa Z h x ST) (V : RoadKit.Fld Z h x ST "value" "[B" v0) (C : RoadKit.Fld Z h x ST "coder" "B" c0) (K : RoadKit.Arr Z h b A .char) (hty : Typed .char A) (S : RoadKit.Sta Z h ST "COMPACT_STRINGS" "Z" (.int z)) (hz : ¬ z = 0)
    (l0 : 0 < A.slots.size) (l2 : A.slots.size ≤ 536870912) (hp : ∀ i, i < A.slots.size → ¬ 255 < cv A i) (hfr : 4 ≤ R.frames) (hlo : W + 65 ≤ R.locals) :
    Back l R p e below s args New1.yN len W (fun P a => a = #[.ref x, .ref b] ∧ P.U.heap = h ∧ P.cells + 1 ≤ R.cells ∧ P.slots + A.slots.size ≤ R.slots)
      (fun P _ v B => ∃ L, Q Z x A h v B.U.heap L ∧ B.locs = P.locs ++ L ∧ B.cells = P.cells + 1 ∧ B.slots = P.slots + A.slots.size) := by
  intro m meth c P g ig mk a X hg hsize hdg hW hn hp'
  obtain ⟨rfl, rfl, r1, r2⟩ := hp'
  have al : Z.vm.Alike P.U.vm := hZ.alike.trans X.warmed.alike
  obtain ⟨D, cfV, kV, iV, fV, hD, gV, stV, knV, obV, asV, slV⟩ := id V
  obtain ⟨D', cfC, kC, iC, fC, hD', gC, stC, -, -, asC, slC⟩ := id C
  cases hD.symm.trans hD'
  obtain ⟨D2, kD, e1, e2, e3, e4, e5⟩ := id E
  cases hD.symm.trans e1
  obtain ⟨c2, k2, i1, i2, i3, -⟩ := Cond.instantiable_spec wi
  cases e2.symm.trans i1
  cases e3.symm.trans i2
  obtain ⟨kU, u1, u2⟩ := al.2.2 _ _ e3
  have hB : Blank ST x D P.U := ⟨hD, ⟨knV, fun q hq => by rw [hq] at obV; cases obV⟩, by rw [al.findClass]; exact e2, kU, u1, by rw [u2]; exact i3, by rw [u2]; exact e5 i3⟩
  have F1 : Found ST "value" "[B" fV P.U := ⟨SBG.found_only al ⟨cfV, kV, iV, gV⟩, stV⟩
  have F2 : Found ST "coder" "B" fC P.U := ⟨SBG.found_only al ⟨cfC, kC, iC, gC⟩, stC⟩
  have hA : Ch b A P.U := ⟨⟨K.1, State.isArrayOf_alike al K.2.1, K.2.2, by omega⟩, hty⟩
  have hS : StaticIs P.U ST "COMPACT_STRINGS" "Z" (.int z) := by
    obtain ⟨cfS, iS, kS, fS, st, cS, t1, t2, t3, t4, t5, t6, t7⟩ := S
    exact StaticIs.there (s := { Z with heap := P.U.heap }) ⟨cfS, iS, kS, fS, st, cS, t1, t2, t3, t4, t5, (fun q => by rw [q] at t6; cases t6), t7⟩ al rfl
  obtain ⟨v, B, X', ⟨⟨hv, E', V', q1, q2, q3, q4, q5, q6, q7, q8, q9, q10, q11⟩, hl, hc, hs⟩, st⟩ := New1.pays x D fV fC b A z (tab_of (moved hZ hw)) hfr hlo m meth c P g ig mk _ X hg hsize hdg hW hn ⟨r1, r2, rfl, hB, F1, F2, hA, hS, hz, l0, l2, hp⟩
  have al' : Z.vm.Alike B.U.vm := hZ.alike.trans X'.warmed.alike
  have hsz : E'.slots.size = D.slots.size := by
    obtain ⟨-, -, -, kB, w1, w2, w3⟩ := q1
    obtain ⟨kB', y1, y2⟩ := al'.2.2 _ _ e3
    rw [q2.2.1] at w1
    cases w1.symm.trans y1
    rw [w3, e5 i3, y2]
  refine ⟨v, B, X', ⟨_, ⟨hv, ?_, ⟨by omega, fun y cy hy hn' => q10 y cy (by simpa using hn') hy, fun y cy hy => ?_⟩, q11, ⟨E', _, q1.1, by rw [q2.2.1]; exact e2, by rw [q2.2.1]; exact e3, by rw [q2.1]; exact obV, fun _ => by rw [hsz]; exact e5 i3⟩,
    ⟨E', cfV, kV, iV, fV, q1.1, gV, stV, by rw [q2.1]; exact knV, by rw [q2.1]; exact obV, by rw [q2.2.1]; exact asV, q3⟩, ⟨E', cfC, kC, iC, fC, q1.1, gC, stC, by rw [q2.1]; exact knV, by rw [q2.1]; exact obV, by rw [q2.2.1]; exact asC, q4⟩,
    ⟨V', ⟨q5.1, State.isArrayOf_alike al'.symm q5.2.1, q5.2.2.1⟩, q6, by rw [← al'.findClass]; exact q7, q8, fun j hj => by have := q9 j hj; rwa [Nat.zero_add] at this⟩, fun O n d w F n1 n2 => ?_⟩, hl, hc, hs⟩, st⟩
  · intro y hy
    simp only [List.mem_cons, List.not_mem_nil, or_false] at hy
    rcases hy with rfl | rfl <;> rfl
  · by_cases q : y = x
    · subst q
      cases hD.symm.trans hy
      exact ⟨E', q1.1, q2.2.1, q2.1, hsz⟩
    · exact ⟨cy, q10 y cy q hy, rfl, rfl, rfl⟩
  · obtain ⟨D3, cf, k, i, f, g1, g2, g3, g4, g5, g6, g7⟩ := F
    cases hD.symm.trans g1
    simp only [RoadKit.slotOf, g2, gV, gC, Option.map_some, Option.getD_some] at n1 n2
    exact ⟨E', cf, k, i, f, q1.1, g2, g3, by rw [q2.1]; exact g4, by rw [q2.1]; exact g5, by rw [q2.2.1]; exact g6, by rw [q2.2.2 f.slot (by simp [n1, n2])]; exact g7⟩
end StrChars.Road
namespace StrChars.Road
open Jvm Sem ClassFile Op Lib Jvm.Stand Jvm.Free Jvm.Free.XT
/-- WHAT COMES BACK, the byte[] as a list of values -/
def QA (Z : State) (x : Addr) (zn : Int32) (cs : List Int32) (h : Heap) (v : Option Value) (h' : Heap) (L : List Loc) : Prop := v = none ∧ (∀ y ∈ L, y.base = x) ∧ RoadKit.Keep h h' [x] ∧ h'.size = h.size + 1 ∧ RoadKit.Exa Z h' x ST ∧ RoadKit.Fld Z h' x ST "value" "[B" (.ref h.size) ∧ RoadKit.Fld Z h' x ST "coder" "B" (.int 0) ∧
  (∃ kb, Z.vm.findClass "[B" = some kb ∧ RoadKit.Arv Z h' h.size kb .byte zn (cs.map fun c => .int (lo8 c)) (.int 0)) ∧
  ∀ (O n d : String) (w : Value), RoadKit.Fld Z h x O n d w → RoadKit.slotOf Z O n d ≠ RoadKit.slotOf Z ST "value" "[B" → RoadKit.slotOf Z O n d ≠ RoadKit.slotOf Z ST "coder" "B" → RoadKit.Fld Z h' x O n d w
/-- **new String(chars) AT A CALL, THE ARRAYS AS LISTS**: the char[] at b holds cs, not empty, no char above 255 -/
theorem backArv {p : Program} {l : Launch} {e : Env} {R : Room} {s : State} {args : Array Value} {below : List Frame} {len W : Nat} {Z : State} {a0 : Array Value} {h : Heap} (hZ : Z.Warmed39 s.vm) (hw : ∀ d ∈ words, d.before a0 Z = true) {kI : Nat} (wi : (Jvm.Cond.instantiable ST kI).before a0 Z = true)
    {x b : Addr} {k : ClassId} {zn z : Int32} {cs : List Int32} {dv v0 c0 : Value} (E : RoadKit.Exa Z h x ST) (V : RoadKit.Fld Z h x ST "value" "[B" v0) (C : RoadKit.Fld Z h x ST "coder" "B" c0) (K : RoadKit.Arv Z h b k .char zn (cs.map Value.int) dv) (S : RoadKit.Sta Z h ST "COMPACT_STRINGS" "Z" (.int z)) (hz : ¬ z = 0)
    (hlen : zn.toNatClampNeg = cs.length) (h0 : 0 < cs.length) (hbig : cs.length ≤ 536870912) (hall : ∀ c ∈ cs, ¬ 255 < c) (hfr : 4 ≤ R.frames) (hlo : W + 65 ≤ R.locals) :
    Back l R p e below s args New1.yN len W (fun P a => a = #[.ref x, .ref b] ∧ P.U.heap = h ∧ P.cells + 1 ≤ R.cells ∧ P.slots + cs.length ≤ R.slots)
      (fun P _ v B => ∃ L, QA Z x zn cs h v B.U.heap L ∧ B.locs = P.locs ++ L ∧ B.cells = P.cells + 1 ∧ B.slots = P.slots + cs.length) := by
  obtain ⟨A, K1, K2, K3, K4, K5, K6⟩ := K
  have e : A.slots.size = cs.length := K3.trans hlen
  have hat : ∀ (i : Nat) (hi : i < cs.length), A.slots[i]? = some (.int cs[i]) := fun i hi => by rw [K5 i (by omega)]; simp [List.getD_eq_getElem?_getD, hi]
  have hcv : ∀ (i : Nat) (hi : i < cs.length), cv A i = cs[i] := fun i hi => by unfold cv; rw [hat i hi]
  have hty : Typed .char A := fun i v hv => by
    have hi : i < A.slots.size := (Array.getElem?_eq_some_iff.mp hv).1
    have q := K5 i hi
    rw [hv] at q
    rw [Option.some.inj q]
    exact K6 i hi
  refine Back.mono (back hZ hw wi E V C K1 hty S hz (by omega) (by omega) (fun i hi => by rw [hcv i (by omega)]; exact hall _ (List.getElem_mem _)) hfr hlo) (fun P a hp => ⟨hp.1, hp.2.1, hp.2.2.1, by rw [e]; exact hp.2.2.2⟩) (fun P a v B hp hq => ?_)
  obtain ⟨L, ⟨q1, q2, q3, q4, q5, q6, q7, ⟨V', v1, v2, v3, v4, v5⟩, q9⟩, hl, hc, hs⟩ := hq
  refine ⟨L, ⟨q1, q2, q3, q4, q5, q6, q7, ⟨V'.cls, v3, V', v1, rfl, by rw [v4, e, hlen], K4, fun i hi => ?_, fun i hi => ?_⟩, q9⟩, hl, hc, by rw [hs, e]⟩
  · have hi' : i < cs.length := by omega
    rw [v5 i (by omega), hcv i hi']; simp [List.getD_eq_getElem?_getD, hi']
  · have hi' : i < cs.length := by omega
    simp only [List.getD_eq_getElem?_getD, List.getElem?_map, List.getElem?_eq_getElem hi', Option.map_some, Option.getD_some]
    exact fits_lo8 _
end StrChars.Road
namespace StrChars.Road
open Jvm Sem ClassFile Op Lib Jvm.Stand Jvm.Free Jvm.Free.XT
/-- WHAT COMES BACK, in the writer's own shape -/
def QV (Z : State) (x : Addr) (N : Int32) (bs : List Int32) (h : Heap) (n0 : Nat) (v : Option Value) (h' : Heap) (L : List Loc) : Prop := v = none ∧ RoadKit.Fr n0 L ∧ RoadKit.Keep h h' [x] ∧ RoadKit.Exa Z h' x ST ∧ RoadKit.Fld Z h' x ST "coder" "B" (.int 0) ∧
  ∃ (t : Addr) (kb : ClassId), n0 ≤ t ∧ h.size ≤ t ∧ ¬ t = x ∧ RoadKit.Fld Z h' x ST "value" "[B" (.ref t) ∧ RoadKit.Arv Z h' t kb .byte N (bs.map Value.int) (.int 0)
/-- **new String(chars) AT A CALL, FOR THE WRITER**: a char[] of n known ints, each 0 to 255 -/
theorem backV {p : Program} {l : Launch} {e : Env} {R : Room} {s : State} {args : Array Value} {below : List Frame} {len W : Nat} {Z : State} {a0 : Array Value} {h : Heap} (hZ : Z.Warmed39 s.vm) (hw : ∀ d ∈ words, d.before a0 Z = true) {kI : Nat} (wi : (Jvm.Cond.instantiable ST kI).before a0 Z = true)
    {x b : Addr} {kC : ClassId} {cs bs : List Int32} {d v0 c0 : Value} {z N : Int32} {n n0 : Nat} (hx0 : n0 ≤ x) (hh0 : n0 ≤ h.size) (E : RoadKit.Exa Z h x ST) (V : RoadKit.Fld Z h x ST "value" "[B" v0) (C : RoadKit.Fld Z h x ST "coder" "B" c0) (K : RoadKit.Arv Z h b kC .char N (cs.map Value.int) d) (S : RoadKit.Sta Z h ST "COMPACT_STRINGS" "Z" (.int z)) (hz : ¬ z = 0)
    (hn : cs.length = n) (hN : N = Int32.ofNat n) (l0 : 0 < n) (l2 : n ≤ 4000) (hp : ∀ c ∈ cs, ¬ c < 0 ∧ ¬ (255 : Int32) < c) (hb : bs = cs.map (fun c => c.toInt8.toInt32)) (hfr : 4 ≤ R.frames) (hlo : W + 65 ≤ R.locals) :
    Back l R p e below s args (⟨"java/lang/String", "<init>", "([C)V"⟩ : MethodName) len W (fun P a => a = #[.ref x, .ref b] ∧ P.U.heap = h ∧ P.cells + 1 ≤ R.cells ∧ P.slots + n ≤ R.slots)
      (fun P _ v B => ∃ L, QV Z x N bs h n0 v B.U.heap L ∧ B.locs = P.locs ++ L ∧ B.cells = P.cells + 1 ∧ B.slots = P.slots + n) := by
  subst hn hN hb
  refine Back.mono (backArv hZ hw wi E V C K S hz (n32 (by omega)) l0 (by omega) (fun c hc => (hp c hc).2) hfr hlo) (fun P a hp => hp) (fun P a v B hp hq => ?_)
  obtain ⟨L, ⟨q1, q2, q3, q4, q5, q6, q7, ⟨kb, v1, v2⟩, q9⟩, hl, hc, hs⟩ := hq
  exact ⟨L, ⟨q1, fun y hy => by rw [q2 y hy]; exact hx0, q3, q5, q7, h.size, kb, hh0, Nat.le_refl _, Nat.ne_of_gt E.lt, q6, by rw [List.map_map]; exact v2⟩, hl, hc, hs⟩
end StrChars.Road
namespace StrChars
open Jvm Sem ClassFile Op Lib Jvm.Stand Jvm.Free.XT Jvm.Free.ALB Jvm.Free.JM Jvm.Free
open Jvm.Lib.Cold (StaticIs)
def hi8 (x : Int32) : Int32 := lo8 (x >>> ((8 : Int32) &&& 31))
/-- what StringUTF16.getChar makes of two bytes -/
def pairCh (u v : Int32) : Int32 := (((u &&& 255) <<< ((0 : Int32) &&& 31)) ||| ((v &&& 255) <<< ((8 : Int32) &&& 31))).toUInt32.toUInt16.toUInt32.toInt32
theorem shr0 (c : Int32) : c >>> ((0 : Int32) &&& 31) = c := by
  have e : ((0 : Int32) &&& 31) = 0 := by decide
  rw [e]
  apply Int32.toBitVec_inj.mp
  rw [Int32.toBitVec_shiftRight]
  have e1 : ((0 : Int32).toBitVec.smod 32) = 0#32 := by decide
  rw [e1, BitVec.sshiftRight_eq']
  exact BitVec.sshiftRight_zero
theorem lo8_and (x : Int32) : (lo8 x &&& 255).toBitVec.toNat = x.toBitVec.toNat % 256 := by
  have h : (lo8 x).toBitVec = (x.toBitVec.signExtend 8).signExtend 32 := by rw [lo8, Int8.toBitVec_toInt32, Int32.toBitVec_toInt8]
  rw [Int32.toBitVec_and, BitVec.toNat_and, h]
  have e : ((x.toBitVec.signExtend 8).signExtend 32).toNat % 256 = x.toBitVec.toNat % 256 := by
    rw [BitVec.toNat_signExtend]
    have hlt := x.toBitVec.isLt
    simp only [BitVec.toNat_setWidth, BitVec.toNat_signExtend]
    split <;> split <;> omega
  rw [← e]
  exact Nat.and_two_pow_sub_one_eq_mod _ 8
theorem pair_says {c : Int32} (h0 : ¬ c < 0) (h1 : ¬ 65535 < c) : pairCh (lo8 c) (hi8 c) = c := by
  rw [Int32.lt_iff_toInt_lt] at h0 h1
  have e0 : (0 : Int32).toInt = 0 := rfl
  have e1 : (65535 : Int32).toInt = 65535 := rfl
  have hc : c.toInt = c.toBitVec.toNat := by
    have := c.toBitVec.isLt
    have e : c.toInt = c.toBitVec.toInt := rfl
    rw [e] at h0 h1
    rw [e]
    rw [BitVec.toInt_eq_toNat_cond] at h0 h1 ⊢
    split at h0 <;> split <;> omega
  have hn : c.toBitVec.toNat < 65536 := by omega
  have a1 := lo8_and c
  have a2 : (hi8 c &&& 255).toBitVec.toNat = c.toBitVec.toNat / 256 := by
    rw [hi8, lo8_and]
    have e : ((8 : Int32) &&& 31) = 8 := by decide
    rw [e, Int32.toBitVec_shiftRight]
    have e2 : ((8 : Int32).toBitVec.smod 32) = 8#32 := by decide
    rw [e2, BitVec.sshiftRight_eq', BitVec.toNat_sshiftRight_of_msb_false (by rw [BitVec.msb_eq_false_iff_two_mul_lt]; omega)]
    show c.toBitVec.toNat >>> 8 % 256 = _
    rw [Nat.shiftRight_eq_div_pow]
    omega
  unfold pairCh
  apply Int32.toBitVec_inj.mp
  apply BitVec.eq_of_toNat_eq
  have f0 : ((0 : Int32) &&& 31) = 0 := by decide
  have f8 : ((8 : Int32) &&& 31) = 8 := by decide
  rw [f0, f8]
  have g : (((lo8 c &&& 255) <<< (0 : Int32)) ||| ((hi8 c &&& 255) <<< (8 : Int32))).toBitVec.toNat = c.toBitVec.toNat := by
    rw [Int32.toBitVec_or, Int32.toBitVec_shiftLeft, Int32.toBitVec_shiftLeft]
    have s0 : ((0 : Int32).toBitVec.smod 32) = 0#32 := by decide
    have s8 : ((8 : Int32).toBitVec.smod 32) = 8#32 := by decide
    rw [s0, s8, BitVec.toNat_or]
    simp only [BitVec.shiftLeft_eq', BitVec.toNat_shiftLeft, a1, a2]
    show (c.toBitVec.toNat % 256) <<< 0 % 2 ^ 32 ||| (c.toBitVec.toNat / 256) <<< 8 % 2 ^ 32 = _
    rw [Nat.shiftLeft_zero, Nat.mod_eq_of_lt (show c.toBitVec.toNat % 256 < 2 ^ 32 by omega), Nat.mod_eq_of_lt (show (c.toBitVec.toNat / 256) <<< 8 < 2 ^ 32 by rw [Nat.shiftLeft_eq]; omega), Nat.or_comm, ← Nat.shiftLeft_add_eq_or_of_lt (by omega), Nat.shiftLeft_eq]
    omega
  show BitVec.toNat (((((lo8 c &&& 255) <<< (0 : Int32)) ||| ((hi8 c &&& 255) <<< (8 : Int32))).toBitVec.setWidth 16).setWidth 32) = _
  rw [BitVec.toNat_setWidth, BitVec.toNat_setWidth, g]
  omega
end StrChars
namespace StrChars
open Jvm Sem ClassFile Op Lib Jvm.Stand Jvm.Free.XT Jvm.Free.ALB Jvm.Free.JM Jvm.Free
open Jvm.Lib.Cold (StaticIs)
theorem shr1 {n : Nat} (h : 2 * n < 2 ^ 31) : Int32.ofNat (2 * n) >>> ((1 : Int32) &&& 31) = Int32.ofNat n := by
  have e : ((1 : Int32) &&& 31) = 1 := by decide
  rw [e]
  apply Int32.toBitVec_inj.mp
  rw [Int32.toBitVec_shiftRight]
  have e1 : ((1 : Int32).toBitVec.smod 32) = 1#32 := by decide
  have hm : (BitVec.ofNat 32 (2 * n)).toNat = 2 * n := by rw [BitVec.toNat_ofNat, Nat.mod_eq_of_lt (by omega)]
  rw [e1, BitVec.sshiftRight_eq']
  apply BitVec.eq_of_toNat_eq
  show ((BitVec.ofNat 32 (2 * n)).sshiftRight 1).toNat = (BitVec.ofNat 32 n).toNat
  rw [BitVec.toNat_sshiftRight_of_msb_false (by rw [BitVec.msb_eq_false_iff_two_mul_lt, hm]; omega), hm, BitVec.toNat_ofNat, Nat.shiftRight_eq_div_pow]
  omega
/-- charAt's cast of a byte read back -/
def chr8 (u : Int32) : Int32 := (u &&& 255).toUInt32.toUInt16.toUInt32.toInt32
theorem chr8_lo8 {c : Int32} (h0 : ¬ c < 0) (h1 : ¬ 255 < c) : chr8 (lo8 c) = c := by
  have t : ∀ k : Fin 256, (Int32.ofNat k.val).toUInt32.toUInt16.toUInt32.toInt32 = Int32.ofNat k.val := by decide +kernel
  unfold chr8
  rw [lo8_mask h0 h1]
  rw [Int32.lt_iff_toInt_lt] at h0 h1
  have e0 : (0 : Int32).toInt = 0 := rfl
  have e1 : (255 : Int32).toInt = 255 := rfl
  obtain ⟨k, hk⟩ : ∃ k : Nat, c.toInt = k := ⟨c.toInt.toNat, by omega⟩
  have hx : c = Int32.ofNat k := Int32.toInt_inj.mp (by rw [hk, Int32.toInt_ofNat_small (by omega)])
  rw [hx]
  exact t ⟨k, by omega⟩
theorem narrow_ch {c : Int32} (h0 : ¬ c < 0) (h1 : ¬ 65535 < c) : narrow .char (.int c) = .int c := by
  have q : narrow .char (.int (pairCh (lo8 c) (hi8 c))) = .int (pairCh (lo8 c) (hi8 c)) := narrow_c _
  rwa [pair_says h0 h1] at q
/-- the array's cell V codes the n chars f 0 .. f (n - 1) by the coder cd, as the JDK does: coder 1 just where some char is above 255 -/
def Cod (cd : Int32) (n : Nat) (f : Nat → Int32) (V : Cell) : Prop := (cd = 0 ∧ V.slots.size = n ∧ ∀ j, j < n → V.slots[j]? = some (.int (lo8 (f j))) ∧ ¬ 255 < f j) ∨ (cd = 1 ∧ V.slots.size = 2 * n ∧ (∀ j, j < n → V.slots[2 * j]? = some (.int (lo8 (f j))) ∧ V.slots[2 * j + 1]? = some (.int (hi8 (f j)))) ∧ ∃ j, j < n ∧ 255 < f j)
theorem Cod.cd {cd : Int32} {n : Nat} {f : Nat → Int32} {V : Cell} (h : Cod cd n f V) : cd = 0 ∨ cd = 1 := h.imp (fun q => q.1) fun q => q.1
theorem Cod.len {cd : Int32} {n : Nat} {f : Nat → Int32} {V : Cell} (h : Cod cd n f V) (hs : V.slots.size < 2 ^ 31) : Int32.ofNat V.slots.size >>> (cd &&& 31) = Int32.ofNat n := by
  rcases h with ⟨rfl, h, -⟩ | ⟨rfl, h, -⟩
  · rw [shr0, h]
  · rw [h, shr1 (by omega)]
/-- **x is a String of the n chars f 0 .. f (n - 1)**, Latin-1 or UTF-16; its array at t has the cell V -/
def Txt (x t : Addr) (V : Cell) (cd : Int32) (n : Nat) (f : Nat → Int32) (U : State) : Prop := Exact "java/lang/String" x U ∧ Has x "java/lang/String" "value" "[B" (.ref t) U ∧ Has x "java/lang/String" "coder" "B" (.int cd) U ∧ XT.Arr .byte t V U ∧ Cod cd n f V ∧ ∀ j, j < n → ¬ f j < 0 ∧ ¬ 65535 < f j
theorem Txt.mv {x t : Addr} {V : Cell} {cd : Int32} {n : Nat} {f : Nat → Int32} {U U' : State} (h : Txt x t V cd n f U) (hal : U.vm.Alike U'.vm) (hh : U'.heap = U.heap) : Txt x t V cd n f U' := ⟨h.1.mv hal hh, h.2.1.mv hal hh, h.2.2.1.mv hal hh, h.2.2.2.1.mv hal hh, h.2.2.2.2⟩
namespace Cdr
def yN : MethodName := ⟨"java/lang/String", "coder", "()B"⟩
abbrev yB : ByteArray := jdk_42_method_152_code
theorem d0 : decode yB 0 = .ok (.getstatic 38, 3) := by decide +kernel
theorem d3 : decode yB 3 = .ok (.ifCond (.eq) 10, 3) := by decide +kernel
theorem d6 : decode yB 6 = .ok (.aload_n 0, 1) := by decide +kernel
theorem d7 : decode yB 7 = .ok (.getfield 15, 3) := by decide +kernel
theorem d10 : decode yB 10 = .ok (.goto 4, 3) := by decide +kernel
theorem d14 : decode yB 14 = .ok (.ireturn, 1) := by decide +kernel
def site : List Cond := [.fieldLink "java/lang/String" 38 "java/lang/String" "COMPACT_STRINGS" "Z", .fieldLink "java/lang/String" 15 "java/lang/String" "coder" "B"]
def tab : Cond := tabOf yN yB 1 (some .byte) site
def P (x : Addr) (cd z : Int32) (args : Array Value) (s : State) : Prop := args = #[.ref x] ∧ Has x "java/lang/String" "coder" "B" (.int cd) s ∧ (cd = 0 ∨ cd = 1) ∧ StaticIs s "java/lang/String" "COMPACT_STRINGS" "Z" (.int z) ∧ ¬ z = 0
def E (cd : Int32) (r : Option Value) (s u : State) : Prop := XT.PureE (some (.int cd)) r s u
theorem law (l : Launch) (x : Addr) (cd z : Int32) : Law l yN 1 0 0 0 yB 1 (some .byte) site (P x cd z) (E cd) [] 0 0 := by
  refine Law.of_walk (plainFor_of_name (by decide +kernel)) (by decide +kernel) (by decide +kernel) (by decide) (fun _ _ h => by rw [h.1]; rfl) (fun _ U U' hal hh h => ⟨h.1, h.2.1.mv hal hh, h.2.2.1, h.2.2.2.1.there hal hh, h.2.2.2.2⟩) (fun r U U' V V' h1 hal h2 h => XT.PureE.mv r U U' V V' h1 hal h2 h) ?_
  intro p e s m args below meth c s₁ X0 hexec hbytes hml hret hlk hnm hown hh0 W hP
  obtain ⟨rfl, hx, hc, s1, hz⟩ := hP
  have c1 : Steps p.tables e below (s₁.setTop (entryFrame m #[.ref x] 1)) (s₁.setTop (mkF m 0 #[.val (.ref x)] [])) := entry rfl
  obtain ⟨T2, X2, q2, st2⟩ := X0.sget hexec hown (wk W (.fieldLink "java/lang/String" 38 "java/lang/String" "COMPACT_STRINGS" "Z")) s1 (fun _ _ h => by rw [hh0]; exact h) (g := (mkF m 0 #[.val (.ref x)] [])) rfl (hb hbytes d0)
  have hh2 := q2.trans hh0
  have c3 : Steps p.tables e below (s₁.setTop (entryFrame m #[.ref x] 1)) (T2.setTop (mkF m 7 #[.val (.ref x)] [.ref x])) := (c1.trans (st2 _ (Steps.refl _))).trans (by
    refine XS.ifNo X2.here hexec rfl (hb hbytes d3) rfl (i0_eq_f hz) ?_
    refine XS.aloadN X2.here hexec rfl (hb hbytes d6) rfl rfl ?_
    exact Steps.refl _)
  obtain ⟨T4, X4, q4, st4⟩ := X2.hget hexec hown (wk W (.fieldLink "java/lang/String" 15 "java/lang/String" "coder" "B")) (hx.mv X2.warmed.alike hh2) (g := (mkF m 7 #[.val (.ref x)] [.ref x])) rfl (rest := []) rfl (hb hbytes d7)
  have c5 : Steps p.tables e below (s₁.setTop (entryFrame m #[.ref x] 1)) (T4.setTop (mkF m 14 #[.val (.ref x)] [.int cd])) := (c3.trans (st4 _ (Steps.refl _))).trans (by
    refine XS.goto X4.here hexec rfl (pc0 := 10) rfl (hb hbytes d10) (by decide) rfl ?_
    exact Steps.refl _)
  exact ⟨T4, some (.int cd), _, _, _, X4, rfl, rfl, rfl, (fun h => by cases h), ⟨rfl, q4.trans hh2⟩, fun fs hl => c5.trans (X4.ireturnOut hexec hret (by rcases hc with rfl | rfl <;> rfl) (Or.inr (Or.inr (Or.inl rfl))) (hb hbytes d14) hl)⟩
end Cdr
namespace Len
def yN : MethodName := ⟨"java/lang/String", "length", "()I"⟩
abbrev yB : ByteArray := jdk_42_method_54_code
theorem d0 : decode yB 0 = .ok (.aload_n 0, 1) := by decide +kernel
theorem d1 : decode yB 1 = .ok (.getfield 9, 3) := by decide +kernel
theorem d4 : decode yB 4 = .ok (.arraylength, 1) := by decide +kernel
theorem d5 : decode yB 5 = .ok (.aload_n 0, 1) := by decide +kernel
theorem d6 : decode yB 6 = .ok (.invokevirtual 335, 3) := by decide +kernel
theorem d9 : decode yB 9 = .ok (.ishr, 1) := by decide +kernel
theorem d10 : decode yB 10 = .ok (.ireturn, 1) := by decide +kernel
def site : List Cond := [.fieldLink "java/lang/String" 9 "java/lang/String" "value" "[B", Cdr.tab] ++ virtW "java/lang/String" 335 "java/lang/String" Cdr.yN Cdr.yN
def tab : Cond := tabOf yN yB 1 (some .int) site
def P (x t : Addr) (V : Cell) (cd : Int32) (n : Nat) (f : Nat → Int32) (z : Int32) (args : Array Value) (s : State) : Prop := args = #[.ref x] ∧ Txt x t V cd n f s ∧ StaticIs s "java/lang/String" "COMPACT_STRINGS" "Z" (.int z) ∧ ¬ z = 0
def E (n : Nat) (r : Option Value) (s u : State) : Prop := XT.PureE (some (.int (Int32.ofNat n))) r s u
/-- length() of a String of n chars, in either coding -/
theorem law (l : Launch) (x t : Addr) (V : Cell) (cd : Int32) (n : Nat) (f : Nat → Int32) (z : Int32) : Law l yN 1 0 1 13 yB 1 (some .int) site (P x t V cd n f z) (E n) [] 0 0 := by
  refine Law.of_walk (plainFor_of_name (by decide +kernel)) (by decide +kernel) (by decide +kernel) (by decide) (fun _ _ h => by rw [h.1]; rfl) (fun _ U U' hal hh h => ⟨h.1, h.2.1.mv hal hh, h.2.2.1.there hal hh, h.2.2.2⟩) (fun r U U' V V' h1 hal h2 h => XT.PureE.mv r U U' V V' h1 hal h2 h) ?_
  intro p e s m args below meth c s₁ X0 hexec hbytes hml hret hlk hnm hown hh0 W hP
  obtain ⟨rfl, hx, s1, hz⟩ := hP
  have v31 := hx.2.2.2.1.2.2.2
  have c1 : Steps p.tables e below (s₁.setTop (entryFrame m #[.ref x] 1)) (s₁.setTop (mkF m 1 #[.val (.ref x)] [.ref x])) := Steps.trans (entry rfl) (by
    show Steps p.tables e below (s₁.setTop (mkF m 0 #[.val (.ref x)] [])) _
    refine XS.aloadN X0.here hexec rfl (hb hbytes d0) rfl rfl ?_
    exact Steps.refl _)
  obtain ⟨T2, X2, q2, st2⟩ := X0.hget hexec hown (wk W (.fieldLink "java/lang/String" 9 "java/lang/String" "value" "[B")) (hx.mv X0.warmed.alike hh0).2.1 (g := (mkF m 1 #[.val (.ref x)] [.ref x])) rfl (rest := []) rfl (hb hbytes d1)
  have hh2 := q2.trans hh0
  have hx2 := hx.mv X2.warmed.alike hh2
  have c3 : Steps p.tables e below (s₁.setTop (entryFrame m #[.ref x] 1)) (T2.setTop (mkF m 6 #[.val (.ref x)] [.ref x, .int (Int32.ofNat V.slots.size)])) := (c1.trans (st2 _ (Steps.refl _))).trans (by
    refine X2.alen hexec hx2.2.2.2.1 rfl rfl (hb hbytes d4) ?_
    refine XS.aloadN X2.here hexec rfl (hb hbytes d5) rfl rfl ?_
    exact Steps.refl _)
  obtain ⟨v4, T4, X4, E4, g4⟩ := X2.callV hexec (Cdr.law l x cd z) hown (wks W (virtW "java/lang/String" 335 "java/lang/String" Cdr.yN Cdr.yN)) rfl (by decide) (wk W Cdr.tab) (W := 1) (Nat.le_of_ble_eq_true rfl) (Nat.le_of_ble_eq_true rfl) (Nat.le_refl _) (Nat.le_refl _) (hx2.1.fc X2.warmed.alike) hx2.1.is (g := (mkF m 6 #[.val (.ref x)] [.ref x, .int (Int32.ofNat V.slots.size)])) rfl (by rw [hml]; rfl) c3 (argsL := []) (rest := [.int (Int32.ofNat V.slots.size)]) rfl rfl (by show 2 * 0 + (1 + 0) ≤ _; decide) (hb hbytes d6) (⟨rfl, hx2.2.2.1, hx.2.2.2.2.1.cd, s1.there X2.warmed.alike hh2, hz⟩)
  obtain ⟨rfl, q4⟩ := E4
  have c5 : Steps p.tables e below (s₁.setTop (entryFrame m #[.ref x] 1)) (T4.setTop (mkF m 10 #[.val (.ref x)] [.int (Int32.ofNat V.slots.size >>> (cd &&& 31))])) := Steps.trans g4 (by
    refine ishr X4.here hexec rfl (hb hbytes d9) rfl ?_
    exact Steps.refl _)
  rw [hx.2.2.2.2.1.len v31] at c5
  exact ⟨T4, some (.int (Int32.ofNat n)), _, _, _, X4, rfl, rfl, rfl, (fun h => by cases h), ⟨rfl, q4.trans hh2⟩, fun fs hl => c5.trans (X4.ireturnOut hexec hret rfl (Or.inl rfl) (hb hbytes d10) hl)⟩
theorem pays {l : Launch} {R : Room} {p : Program} {e : Env} {below : List Frame} {s : State} {sargs : Array Value} {len W : Nat} (x t : Addr) (V : Cell) (cd : Int32) (n : Nat) (f : Nat → Int32) (z : Int32) (htab : tab.before sargs s = true) (hfr : 2 ≤ R.frames) (hlo : W + 25 ≤ R.locals) :
    Back l R p e below s sargs yN len W (fun A₁ a₁ => A₁.cells + 0 ≤ R.cells ∧ A₁.slots + 0 ≤ R.slots ∧ P x t V cd n f z a₁ A₁.U) (fun A₁ _ v₁ B₁ => E n v₁ A₁.U B₁.U ∧ B₁.locs = A₁.locs ++ [] ∧ B₁.cells = A₁.cells + 0 ∧ B₁.slots = A₁.slots + 0) :=
  (law l x t V cd n f z).pays htab hfr (by omega)
end Len
namespace IsL
def yN : MethodName := ⟨"java/lang/String", "isLatin1", "()Z"⟩
abbrev yB : ByteArray := jdk_42_method_154_code
theorem d0 : decode yB 0 = .ok (.getstatic 38, 3) := by decide +kernel
theorem d3 : decode yB 3 = .ok (.ifCond (.eq) 14, 3) := by decide +kernel
theorem d6 : decode yB 6 = .ok (.aload_n 0, 1) := by decide +kernel
theorem d7 : decode yB 7 = .ok (.getfield 15, 3) := by decide +kernel
theorem d10 : decode yB 10 = .ok (.ifCond (.ne) 7, 3) := by decide +kernel
theorem d13 : decode yB 13 = .ok (.iconst 1, 1) := by decide +kernel
theorem d14 : decode yB 14 = .ok (.goto 4, 3) := by decide +kernel
theorem d17 : decode yB 17 = .ok (.iconst 0, 1) := by decide +kernel
theorem d18 : decode yB 18 = .ok (.ireturn, 1) := by decide +kernel
def site : List Cond := [.fieldLink "java/lang/String" 38 "java/lang/String" "COMPACT_STRINGS" "Z", .fieldLink "java/lang/String" 15 "java/lang/String" "coder" "B"]
def tab : Cond := tabOf yN yB 1 (some .boolean) site
def P (x : Addr) (cd z : Int32) (args : Array Value) (s : State) : Prop := args = #[.ref x] ∧ Has x "java/lang/String" "coder" "B" (.int cd) s ∧ (cd = 0 ∨ cd = 1) ∧ StaticIs s "java/lang/String" "COMPACT_STRINGS" "Z" (.int z) ∧ ¬ z = 0
def E (cd : Int32) (r : Option Value) (s u : State) : Prop := XT.PureE (some (.int (1 - cd))) r s u
theorem law (l : Launch) (x : Addr) (cd z : Int32) : Law l yN 1 0 0 0 yB 1 (some .boolean) site (P x cd z) (E cd) [] 0 0 := by
  refine Law.of_walk (plainFor_of_name (by decide +kernel)) (by decide +kernel) (by decide +kernel) (by decide) (fun _ _ h => by rw [h.1]; rfl) (fun _ U U' hal hh h => ⟨h.1, h.2.1.mv hal hh, h.2.2.1, h.2.2.2.1.there hal hh, h.2.2.2.2⟩) (fun r U U' V V' h1 hal h2 h => XT.PureE.mv r U U' V V' h1 hal h2 h) ?_
  intro p e s m args below meth c s₁ X0 hexec hbytes hml hret hlk hnm hown hh0 W hP
  obtain ⟨rfl, hx, hc, s1, hz⟩ := hP
  have c1 : Steps p.tables e below (s₁.setTop (entryFrame m #[.ref x] 1)) (s₁.setTop (mkF m 0 #[.val (.ref x)] [])) := entry rfl
  obtain ⟨T2, X2, q2, st2⟩ := X0.sget hexec hown (wk W (.fieldLink "java/lang/String" 38 "java/lang/String" "COMPACT_STRINGS" "Z")) s1 (fun _ _ h => by rw [hh0]; exact h) (g := (mkF m 0 #[.val (.ref x)] [])) rfl (hb hbytes d0)
  have hh2 := q2.trans hh0
  have c3 : Steps p.tables e below (s₁.setTop (entryFrame m #[.ref x] 1)) (T2.setTop (mkF m 7 #[.val (.ref x)] [.ref x])) := (c1.trans (st2 _ (Steps.refl _))).trans (by
    refine XS.ifNo X2.here hexec rfl (hb hbytes d3) rfl (i0_eq_f hz) ?_
    refine XS.aloadN X2.here hexec rfl (hb hbytes d6) rfl rfl ?_
    exact Steps.refl _)
  obtain ⟨T4, X4, q4, st4⟩ := X2.hget hexec hown (wk W (.fieldLink "java/lang/String" 15 "java/lang/String" "coder" "B")) (hx.mv X2.warmed.alike hh2) (g := (mkF m 7 #[.val (.ref x)] [.ref x])) rfl (rest := []) rfl (hb hbytes d7)
  have c5 : Steps p.tables e below (s₁.setTop (entryFrame m #[.ref x] 1)) (T4.setTop (mkF m 10 #[.val (.ref x)] [.int cd])) := c3.trans (st4 _ (Steps.refl _))
  have c6 : Steps p.tables e below (s₁.setTop (entryFrame m #[.ref x] 1)) (T4.setTop (mkF m 18 #[.val (.ref x)] [.int (1 - cd)])) := by
    rcases hc with rfl | rfl
    · exact c5.trans (by
        refine XS.ifNo X4.here hexec rfl (hb hbytes d10) rfl (i0_ne_f rfl) ?_
        refine iconstV X4.here hexec rfl 1 (hb hbytes d13) (by decide) ?_
        refine XS.goto X4.here hexec rfl (pc0 := 14) rfl (hb hbytes d14) (by decide) rfl ?_
        exact Steps.refl _)
    · exact c5.trans (by
        refine XS.ifYes X4.here hexec rfl (pc0 := 10) rfl (hb hbytes d10) rfl (i0_ne_t (by decide)) (by decide) rfl ?_
        refine iconstV X4.here hexec rfl 0 (hb hbytes d17) (by decide) ?_
        exact Steps.refl _)
  exact ⟨T4, some (.int (1 - cd)), _, _, _, X4, rfl, rfl, rfl, (fun h => by cases h), ⟨rfl, q4.trans hh2⟩, fun fs hl => c6.trans (X4.ireturnOut hexec hret (by rcases hc with rfl | rfl <;> rfl) (Or.inr (Or.inl rfl)) (hb hbytes d18) hl)⟩
end IsL
namespace LChA
def yN : MethodName := ⟨"java/lang/StringLatin1", "charAt", "([BI)C"⟩
abbrev yB : ByteArray := jdk_43_method_2_code
theorem d0 : decode yB 0 = .ok (.iload_n 1, 1) := by decide +kernel
theorem d1 : decode yB 1 = .ok (.aload_n 0, 1) := by decide +kernel
theorem d2 : decode yB 2 = .ok (.arraylength, 1) := by decide +kernel
theorem d3 : decode yB 3 = .ok (.invokestatic 9, 3) := by decide +kernel
theorem d6 : decode yB 6 = .ok (.aload_n 0, 1) := by decide +kernel
theorem d7 : decode yB 7 = .ok (.iload_n 1, 1) := by decide +kernel
theorem d8 : decode yB 8 = .ok (.baload, 1) := by decide +kernel
theorem d9 : decode yB 9 = .ok (.sipush 255, 3) := by decide +kernel
theorem d12 : decode yB 12 = .ok (.iand, 1) := by decide +kernel
theorem d13 : decode yB 13 = .ok (.i2c, 1) := by decide +kernel
theorem d14 : decode yB 14 = .ok (.ireturn, 1) := by decide +kernel
def site : List Cond := [JO.Str_checkIndex.tab] ++ staticW "java/lang/StringLatin1" 9 JO.Str_checkIndex.yN
def tab : Cond := tabOf yN yB 2 (some .char) site
def P (t : Addr) (V : Cell) (i : Nat) (u : Int32) (fm : Value) (args : Array Value) (s : State) : Prop := args = #[.ref t, .int (Int32.ofNat i)] ∧ XT.Arr .byte t V s ∧ V.slots[i]? = some (.int u) ∧ (StaticIs s "jdk/internal/util/Preconditions" "SIOOBE_FORMATTER" "Ljava/util/function/BiFunction;" fm ∧ fm.isRef = true)
def E (u : Int32) (r : Option Value) (s w : State) : Prop := XT.PureE (some (.int (chr8 u))) r s w
theorem law (l : Launch) (t : Addr) (V : Cell) (i : Nat) (u : Int32) (fm : Value) : Law l yN 2 2 2 27 yB 2 (some .char) site (P t V i u fm) (E u) [] 0 0 := by
  refine Law.of_walk (plainFor_of_name (by decide +kernel)) (by decide +kernel) (by decide +kernel) (by decide) (fun _ _ h => by rw [h.1]; rfl) (fun _ U U' hal hh h => ⟨h.1, h.2.1.mv hal hh, h.2.2.1, h.2.2.2.1.there hal hh, h.2.2.2.2⟩) (fun r U U' V V' h1 hal h2 h => XT.PureE.mv r U U' V V' h1 hal h2 h) ?_
  intro p e s m args below meth c s₁ X0 hexec hbytes hml hret hlk hnm hown hh0 W hP
  obtain ⟨rfl, hV, hu, s1, rf⟩ := hP
  have v31 := hV.2.2.2
  have hi : i < V.slots.size := (Array.getElem?_eq_some_iff.mp hu).1
  have c1 : Steps p.tables e below (s₁.setTop (entryFrame m #[.ref t, .int (Int32.ofNat i)] 2)) (s₁.setTop (mkF m 0 #[.val (.ref t), .val (.int (Int32.ofNat i))] [])) := entry rfl
  have c2 : Steps p.tables e below (s₁.setTop (entryFrame m #[.ref t, .int (Int32.ofNat i)] 2)) (s₁.setTop (mkF m 3 #[.val (.ref t), .val (.int (Int32.ofNat i))] [.int (Int32.ofNat V.slots.size), .int (Int32.ofNat i)])) := c1.trans (by
    refine XS.iloadN X0.here hexec rfl (hb hbytes d0) rfl ?_
    refine XS.aloadN X0.here hexec rfl (hb hbytes d1) rfl rfl ?_
    refine X0.alen hexec (hV.mv X0.warmed.alike hh0) rfl rfl (hb hbytes d2) ?_
    exact Steps.refl _)
  obtain ⟨v3, T3, X3, E3, g3⟩ := X0.callS hexec (JO.Str_checkIndex.law l (Int32.ofNat i) (Int32.ofNat V.slots.size) fm) hown (wks W (staticW "java/lang/StringLatin1" 9 JO.Str_checkIndex.yN)) (wk W JO.Str_checkIndex.tab) (W := 0) (Nat.le_of_ble_eq_true rfl) (Nat.le_of_ble_eq_true rfl) (Nat.le_refl _) (Nat.le_refl _) (g := (mkF m 3 #[.val (.ref t), .val (.int (Int32.ofNat i))] [.int (Int32.ofNat V.slots.size), .int (Int32.ofNat i)])) rfl (by rw [hml]; rfl) c2 (argsL := [.int (Int32.ofNat i), .int (Int32.ofNat V.slots.size)]) (rest := []) rfl rfl (by show 2 * 0 + 0 ≤ _; decide) (hb hbytes d3) (⟨rfl, rf, s1.there X0.warmed.alike hh0, Int32.ofNat_not_neg (by omega), lt32 v31 hi⟩)
  obtain ⟨rfl, q3⟩ := E3
  have hh3 := q3.trans hh0
  have c4 : Steps p.tables e below (s₁.setTop (entryFrame m #[.ref t, .int (Int32.ofNat i)] 2)) (T3.setTop (mkF m 14 #[.val (.ref t), .val (.int (Int32.ofNat i))] [.int (chr8 u)])) := Steps.trans g3 (by
    refine XS.aloadN X3.here hexec rfl (hb hbytes d6) rfl rfl ?_
    refine XS.iloadN X3.here hexec rfl (hb hbytes d7) rfl ?_
    refine X3.aget hexec (hV.mv X3.warmed.alike hh3) rfl hu rfl rfl (hb hbytes d8) ?_
    refine sipushV X3.here hexec rfl 255 (hb hbytes d9) (by decide) ?_
    refine XS.iand X3.here hexec rfl (hb hbytes d12) rfl ?_
    refine i2c X3.here hexec rfl (hb hbytes d13) rfl ?_
    exact Steps.refl _)
  exact ⟨T3, some (.int (chr8 u)), _, _, _, X3, rfl, rfl, rfl, (fun h => by cases h), ⟨rfl, hh3⟩, fun fs hl => c4.trans (X3.ireturnOut hexec hret (narrow_c _) (Or.inr (Or.inr (Or.inr (Or.inl rfl)))) (hb hbytes d14) hl)⟩
end LChA
end StrChars
namespace StrChars.Road
open Jvm Sem ClassFile Op Lib Jvm.Stand Jvm.Free Jvm.Free.XT
open Jvm.Lib.Cold (StaticIs)
theorem consq {a : Array Value} {s : State} {c : Jvm.Cond} {L : List Jvm.Cond} (h0 : c.before a s = true) (h : ∀ w ∈ L, w.before a s = true) : ∀ w ∈ c :: L, w.before a s = true := fun w hw => (List.mem_cons.mp hw).elim (fun e => e ▸ h0) (h w)
/-- the words of String.length(), either coding -/
abbrev wordsLen : List Jvm.Cond := [.code Len.yN Len.yB 1 (some .int), .initialized ST, .fieldLink ST 9 ST "value" "[B", .fieldLink ST 38 ST "COMPACT_STRINGS" "Z", .fieldLink ST 15 ST "coder" "B", .code Cdr.yN Cdr.yB 1 (some .byte), .methodLink ST 335 Cdr.yN, .declares Cdr.yN, .selects ST Cdr.yN Cdr.yN, .instanceMethod Cdr.yN]
theorem tabLen_of {a : Array Value} {s : State} (h : ∀ w ∈ wordsLen, w.before a s = true) : Len.tab.before a s = true := by
  have hc : Cdr.tab.before a s = true := unparts (wk h (.code Cdr.yN Cdr.yB 1 (some .byte))) (wks h (.initialized Cdr.yN.cls :: Cdr.site))
  have q := consq hc h
  exact unparts (wk q (.code Len.yN Len.yB 1 (some .int))) (wks q (.initialized Len.yN.cls :: Len.site))
theorem movedLen {Z s : State} {a0 args : Array Value} (hZ : Z.Warmed39 s.vm) (hw : ∀ d ∈ wordsLen, d.before a0 Z = true) : ∀ d ∈ wordsLen, d.before args s = true := fun d hd => by
  have q := hw d hd
  have t : ∀ d ∈ wordsLen, d = .arrayClass .byte ∨ (d.onTables && d.keepsFace) = true := by decide +kernel
  rcases t d hd with rfl | t
  · exact RoadKit.mvA hZ q
  · exact RoadKit.mv hZ q t
/-- the bytes of the chars cs, low before high -/
def wideBytes : List Int32 → List Value
  | [] => []
  | c :: cs => .int (lo8 c) :: .int (hi8 c) :: wideBytes cs
theorem wide_lo (d : Value) : ∀ (cs : List Int32) (j : Nat), j < cs.length → (wideBytes cs).getD (2 * j) d = .int (lo8 (cs.getD j 0))
  | [], j, h => absurd h (Nat.not_lt_zero j)
  | c :: cs, 0, _ => rfl
  | c :: cs, j + 1, h => by
    have q := wide_lo d cs j (by simpa using h)
    rw [show 2 * (j + 1) = 2 * j + 1 + 1 from by omega]
    simpa [wideBytes] using q
theorem wide_hi (d : Value) : ∀ (cs : List Int32) (j : Nat), j < cs.length → (wideBytes cs).getD (2 * j + 1) d = .int (hi8 (cs.getD j 0))
  | [], j, h => absurd h (Nat.not_lt_zero j)
  | c :: cs, 0, _ => rfl
  | c :: cs, j + 1, h => by
    have q := wide_hi d cs j (by simpa using h)
    rw [show 2 * (j + 1) + 1 = 2 * j + 1 + 1 + 1 from by omega]
    simpa [wideBytes] using q
theorem low_at (d : Value) (cs : List Int32) (j : Nat) (h : j < cs.length) : (cs.map fun c => Value.int (lo8 c)).getD j d = .int (lo8 (cs.getD j 0)) := by
  simp [List.getD_eq_getElem?_getD, h]
/-- an array of N2 bytes vs codes the chars cs by the coder cd -/
def CodA (cs : List Int32) (cd N2 : Int32) (vs : List Value) : Prop := (cd = 0 ∧ N2 = Int32.ofNat cs.length ∧ vs = (cs.map fun c => Value.int (lo8 c)) ∧ ∀ c ∈ cs, ¬ 255 < c) ∨ (cd = 1 ∧ N2 = Int32.ofNat (2 * cs.length) ∧ vs = wideBytes cs ∧ ∃ c ∈ cs, 255 < c)
theorem CodA.cod {cs : List Int32} {cd N2 : Int32} {vs : List Value} {V : Cell} (h : CodA cs cd N2 vs) (hn : 2 * cs.length < 2 ^ 31) (hs : V.slots.size = N2.toNatClampNeg) (hv : RoadKit.Has V vs (.int 0)) : Cod cd cs.length (fun j => cs.getD j 0) V := by
  rcases h with ⟨rfl, rfl, rfl, h⟩ | ⟨rfl, rfl, rfl, c, hc, hw⟩
  · rw [n32 (by omega)] at hs
    exact Or.inl ⟨rfl, hs, fun j hj => ⟨by rw [hv j (by omega), low_at _ _ _ hj], by
      have e : cs.getD j 0 = cs[j] := by simp [List.getD_eq_getElem?_getD, hj]
      show ¬ 255 < cs.getD j 0
      rw [e]; exact h _ (List.getElem_mem _)⟩⟩
  · rw [n32 (by omega)] at hs
    obtain ⟨j, hj, rfl⟩ := List.getElem_of_mem hc
    exact Or.inr ⟨rfl, hs, fun j hj => ⟨by rw [hv _ (by omega), wide_lo _ _ _ hj], by rw [hv _ (by omega), wide_hi _ _ _ hj]⟩, j, hj, by
      have e : cs.getD j 0 = cs[j] := by simp [List.getD_eq_getElem?_getD, hj]
      show 255 < cs.getD j 0
      rw [e]; exact hw⟩
/-- an object of exactly java/lang/String, its two fields found: as the laws ask it -/
theorem strObj {Z U : State} {a0 : Array Value} {kI : Nat} (wi : (Jvm.Cond.instantiable ST kI).before a0 Z = true) (al : Z.vm.Alike U.vm) {x : Addr} {v0 c0 : Value} (E : RoadKit.Exa Z U.heap x ST) (V : RoadKit.Fld Z U.heap x ST "value" "[B" v0) (C : RoadKit.Fld Z U.heap x ST "coder" "B" c0) :
    ∃ (D : Cell) (fV fC : Field), Blank ST x D U ∧ Found ST "value" "[B" fV U ∧ Found ST "coder" "B" fC U ∧ D.slots[fV.slot]? = some v0 ∧ D.slots[fC.slot]? = some c0 ∧ RoadKit.slotOf Z ST "value" "[B" = fV.slot ∧ RoadKit.slotOf Z ST "coder" "B" = fC.slot := by
  obtain ⟨D, cfV, kV, iV, fV, hD, gV, stV, knV, obV, asV, slV⟩ := V
  obtain ⟨D', cfC, kC, iC, fC, hD', gC, stC, -, -, asC, slC⟩ := C
  cases hD.symm.trans hD'
  obtain ⟨D2, kD, e1, e2, e3, e4, e5⟩ := E
  cases hD.symm.trans e1
  obtain ⟨c2, k2, i1, i2, i3, -⟩ := Cond.instantiable_spec wi
  cases e2.symm.trans i1
  cases e3.symm.trans i2
  obtain ⟨kU, u1, u2⟩ := al.2.2 _ _ e3
  exact ⟨D, fV, fC, ⟨hD, ⟨knV, fun q hq => by rw [hq] at obV; cases obV⟩, by rw [al.findClass]; exact e2, kU, u1, by rw [u2]; exact i3, by rw [u2]; exact e5 i3⟩, ⟨SBG.found_only al ⟨cfV, kV, iV, gV⟩, stV⟩, ⟨SBG.found_only al ⟨cfC, kC, iC, gC⟩, stC⟩, slV, slC, by simp [RoadKit.slotOf, gV], by simp [RoadKit.slotOf, gC]⟩
theorem sta_is {Z U : State} (al : Z.vm.Alike U.vm) {C n d : String} {v : Value} (S : RoadKit.Sta Z U.heap C n d v) : StaticIs U C n d v := by
  obtain ⟨cfS, iS, kS, fS, st, cS, t1, t2, t3, t4, t5, t6, t7⟩ := S
  exact StaticIs.there (s := { Z with heap := U.heap }) ⟨cfS, iS, kS, fS, st, cS, t1, t2, t3, t4, t5, (fun q => by rw [q] at t6; cases t6), t7⟩ al rfl
/-- **length() OF SUCH A STRING** -/
theorem lenW {p : Program} {l : Launch} {e : Env} {R : Room} {s : State} {args : Array Value} {below : List Frame} {len W : Nat} {Z : State} {a0 : Array Value} {h : Heap} (hZ : Z.Warmed39 s.vm) (hw : ∀ d ∈ wordsLen, d.before a0 Z = true) {kI : Nat} (wi : (Jvm.Cond.instantiable ST kI).before a0 Z = true)
    {x t : Addr} {kb : ClassId} {cs : List Int32} {cd N2 z : Int32} {vs : List Value} (E : RoadKit.Exa Z h x ST) (V : RoadKit.Fld Z h x ST "value" "[B" (.ref t)) (C : RoadKit.Fld Z h x ST "coder" "B" (.int cd)) (K : RoadKit.Arv Z h t kb .byte N2 vs (.int 0)) (hc : CodA cs cd N2 vs) (hb : ∀ c ∈ cs, ¬ c < 0 ∧ ¬ (65535 : Int32) < c)
    (S : RoadKit.Sta Z h ST "COMPACT_STRINGS" "Z" (.int z)) (hz : ¬ z = 0) (l2 : cs.length ≤ 4000) (hfr : 2 ≤ R.frames) (hlo : W + 25 ≤ R.locals) :
    Back l R p e below s args (⟨"java/lang/String", "length", "()I"⟩ : MethodName) len W (fun P a => a = #[.ref x] ∧ P.U.heap = h ∧ P.cells + 0 ≤ R.cells ∧ P.slots + 0 ≤ R.slots)
      (fun P _ v B => ∃ L, (v = some (.int (Int32.ofNat cs.length)) ∧ L = [] ∧ B.U.heap = h) ∧ B.locs = P.locs ++ L ∧ B.cells = P.cells + 0 ∧ B.slots = P.slots + 0) := by
  obtain ⟨A, K1, K2, K3, K4, K5, K6⟩ := K
  have hcod := hc.cod (by omega) K3 K5
  intro m meth c P g ig mk a X hg hsize hdg hW hn hp'
  obtain ⟨rfl, rfl, r1, r2⟩ := hp'
  have al : Z.vm.Alike P.U.vm := hZ.alike.trans X.warmed.alike
  obtain ⟨D, fV, fC, hB, F1, F2, g1, g2, -, -⟩ := strObj wi al E V C
  have hx : Txt x t A cd cs.length (fun j => cs.getD j 0) P.U := ⟨⟨_, hB.2.2.1, D, hB.1, rfl, by cases q : D.vm <;> first | rfl | exact absurd q (hB.2.1.2 _)⟩, Has.of hB F1 g1, Has.of hB F2 g2, ⟨K1.1, State.isArrayOf_alike al K1.2.1, K1.2.2, by rcases hcod with ⟨-, q, -⟩ | ⟨-, q, -⟩ <;> omega⟩, hcod, fun j hj => by
    have e : cs.getD j 0 = cs[j] := by simp [List.getD_eq_getElem?_getD, hj]
    show ¬ cs.getD j 0 < 0 ∧ ¬ 65535 < cs.getD j 0
    rw [e]; exact hb _ (List.getElem_mem _)⟩
  obtain ⟨v, B, X', ⟨⟨hv, hh⟩, hl, hk, hs⟩, st⟩ := Len.pays x t A cd cs.length (fun j => cs.getD j 0) z (tabLen_of (movedLen hZ hw)) hfr hlo m meth c P g ig mk _ X hg hsize hdg hW hn ⟨r1, r2, rfl, hx, sta_is al S, hz⟩
  exact ⟨v, B, X', ⟨[], ⟨hv, rfl, hh⟩, hl, hk, hs⟩, st⟩
end StrChars.Road
namespace StrChars.Road
open Jvm Sem ClassFile Op Lib Jvm.Stand Jvm.Free Jvm.Free.XT
open Jvm.Lib.Cold (StaticIs)
/-- the road's facts of a String, as the laws ask it -/
theorem txt_of {Z U : State} {a0 : Array Value} {kI : Nat} (wi : (Jvm.Cond.instantiable ST kI).before a0 Z = true) (al : Z.vm.Alike U.vm) {x t : Addr} {kb : ClassId} {cs : List Int32} {cd N2 : Int32} {vs : List Value} (E : RoadKit.Exa Z U.heap x ST) (V : RoadKit.Fld Z U.heap x ST "value" "[B" (.ref t)) (C : RoadKit.Fld Z U.heap x ST "coder" "B" (.int cd)) (K : RoadKit.Arv Z U.heap t kb .byte N2 vs (.int 0)) (hc : CodA cs cd N2 vs) (hb : ∀ c ∈ cs, ¬ c < 0 ∧ ¬ (65535 : Int32) < c) (l2 : cs.length ≤ 4000) :
    ∃ A, Txt x t A cd cs.length (fun j => cs.getD j 0) U := by
  obtain ⟨A, K1, K2, K3, K4, K5, K6⟩ := K
  have hcod := hc.cod (by omega) K3 K5
  obtain ⟨D, fV, fC, hB, F1, F2, g1, g2, -, -⟩ := strObj wi al E V C
  exact ⟨A, ⟨_, hB.2.2.1, D, hB.1, rfl, by cases q : D.vm <;> first | rfl | exact absurd q (hB.2.1.2 _)⟩, Has.of hB F1 g1, Has.of hB F2 g2, ⟨K1.1, State.isArrayOf_alike al K1.2.1, K1.2.2, by rcases hcod with ⟨-, q, -⟩ | ⟨-, q, -⟩ <;> omega⟩, hcod, fun j hj => by
    have e : cs.getD j 0 = cs[j] := by simp [List.getD_eq_getElem?_getD, hj]
    show ¬ cs.getD j 0 < 0 ∧ ¬ 65535 < cs.getD j 0
    rw [e]; exact hb _ (List.getElem_mem _)⟩
end StrChars.Road
namespace StrChars
open Jvm Sem ClassFile Op Lib Jvm.Stand Jvm.Free.XT Jvm.Free.ALB Jvm.Free.JM Jvm.Free
open Jvm.Lib.Cold (StaticIs)
namespace ChN
def yN : MethodName := ⟨"java/lang/String", "charAt", "(I)C"⟩
abbrev yB : ByteArray := jdk_42_method_56_code
theorem d0 : decode yB 0 = .ok (.aload_n 0, 1) := by decide +kernel
theorem d1 : decode yB 1 = .ok (.invokevirtual 492, 3) := by decide +kernel
theorem d4 : decode yB 4 = .ok (.ifCond (.eq) 12, 3) := by decide +kernel
theorem d7 : decode yB 7 = .ok (.aload_n 0, 1) := by decide +kernel
theorem d8 : decode yB 8 = .ok (.getfield 9, 3) := by decide +kernel
theorem d11 : decode yB 11 = .ok (.iload_n 1, 1) := by decide +kernel
theorem d12 : decode yB 12 = .ok (.invokestatic 495, 3) := by decide +kernel
theorem d15 : decode yB 15 = .ok (.ireturn, 1) := by decide +kernel
def site : List Cond := [.fieldLink "java/lang/String" 9 "java/lang/String" "value" "[B", IsL.tab, LChA.tab] ++ virtW "java/lang/String" 492 "java/lang/String" IsL.yN IsL.yN ++ staticW "java/lang/String" 495 LChA.yN
def tab : Cond := tabOf yN yB 2 (some .char) site
def P (x t : Addr) (V : Cell) (n : Nat) (f : Nat → Int32) (z : Int32) (fm : Value) (i : Nat) (args : Array Value) (s : State) : Prop := args = #[.ref x, .int (Int32.ofNat i)] ∧ Txt x t V 0 n f s ∧ i < n ∧ StaticIs s "java/lang/String" "COMPACT_STRINGS" "Z" (.int z) ∧ ¬ z = 0 ∧ StaticIs s "jdk/internal/util/Preconditions" "SIOOBE_FORMATTER" "Ljava/util/function/BiFunction;" fm ∧ fm.isRef = true
def E (f : Nat → Int32) (i : Nat) (r : Option Value) (s u : State) : Prop := XT.PureE (some (.int (f i))) r s u
/-- charAt(i) of a Latin-1 String of n chars, i < n: f i -/
theorem law (l : Launch) (x t : Addr) (V : Cell) (n : Nat) (f : Nat → Int32) (z : Int32) (fm : Value) (i : Nat) : Law l yN 2 1 3 40 yB 2 (some .char) site (P x t V n f z fm i) (E f i) [] 0 0 := by
  refine Law.of_walk (plainFor_of_name (by decide +kernel)) (by decide +kernel) (by decide +kernel) (by decide) (fun _ _ h => by rw [h.1]; rfl) (fun _ U U' hal hh h => ⟨h.1, h.2.1.mv hal hh, h.2.2.1, h.2.2.2.1.there hal hh, h.2.2.2.2.1, h.2.2.2.2.2.1.there hal hh, h.2.2.2.2.2.2⟩) (fun r U U' V V' h1 hal h2 h => XT.PureE.mv r U U' V V' h1 hal h2 h) ?_
  intro p e s m args below meth c s₁ X0 hexec hbytes hml hret hlk hnm hown hh0 W hP
  obtain ⟨rfl, hx, hi, s1, hz, s3, rf⟩ := hP
  have v31 := hx.2.2.2.1.2.2.2
  have hr := hx.2.2.2.2.2 i hi
  have hx0 := hx.mv X0.warmed.alike hh0
  have c1 : Steps p.tables e below (s₁.setTop (entryFrame m #[.ref x, .int (Int32.ofNat i)] 2)) (s₁.setTop (mkF m 1 #[.val (.ref x), .val (.int (Int32.ofNat i))] [.ref x])) := Steps.trans (entry rfl) (by
    show Steps p.tables e below (s₁.setTop (mkF m 0 #[.val (.ref x), .val (.int (Int32.ofNat i))] [])) _
    refine XS.aloadN X0.here hexec rfl (hb hbytes d0) rfl rfl ?_
    exact Steps.refl _)
  obtain ⟨v2, T2, X2, E2, g2⟩ := X0.callV hexec (IsL.law l x 0 z) hown (wks W (virtW "java/lang/String" 492 "java/lang/String" IsL.yN IsL.yN)) rfl (by decide) (wk W IsL.tab) (W := 0) (Nat.le_of_ble_eq_true rfl) (Nat.le_of_ble_eq_true rfl) (Nat.le_refl _) (Nat.le_refl _) (hx0.1.fc X0.warmed.alike) hx0.1.is (g := (mkF m 1 #[.val (.ref x), .val (.int (Int32.ofNat i))] [.ref x])) rfl (by rw [hml]; rfl) c1 (argsL := []) (rest := []) rfl rfl (by show 2 * 0 + 0 ≤ _; decide) (hb hbytes d1) (⟨rfl, hx0.2.2.1, hx.2.2.2.2.1.cd, s1.there X0.warmed.alike hh0, hz⟩)
  obtain ⟨rfl, q2⟩ := E2
  have hh2 := q2.trans hh0
  have hx2 := hx.mv X2.warmed.alike hh2
  obtain ⟨-, k1, k2⟩ | ⟨k0, -⟩ := hx.2.2.2.2.1
  · have c3 : Steps p.tables e below (s₁.setTop (entryFrame m #[.ref x, .int (Int32.ofNat i)] 2)) (T2.setTop (mkF m 8 #[.val (.ref x), .val (.int (Int32.ofNat i))] [.ref x])) := Steps.trans g2 (by
      refine XS.ifNo X2.here hexec rfl (hb hbytes d4) rfl (i0_eq_f (by decide)) ?_
      refine XS.aloadN X2.here hexec rfl (hb hbytes d7) rfl rfl ?_
      exact Steps.refl _)
    obtain ⟨T4, X4, q4, st4⟩ := X2.hget hexec hown (wk W (.fieldLink "java/lang/String" 9 "java/lang/String" "value" "[B")) hx2.2.1 (g := (mkF m 8 #[.val (.ref x), .val (.int (Int32.ofNat i))] [.ref x])) rfl (rest := []) rfl (hb hbytes d8)
    have hh4 := q4.trans hh2
    have c5 : Steps p.tables e below (s₁.setTop (entryFrame m #[.ref x, .int (Int32.ofNat i)] 2)) (T4.setTop (mkF m 12 #[.val (.ref x), .val (.int (Int32.ofNat i))] [.int (Int32.ofNat i), .ref t])) := (c3.trans (st4 _ (Steps.refl _))).trans (by
      refine XS.iloadN X4.here hexec rfl (hb hbytes d11) rfl ?_
      exact Steps.refl _)
    obtain ⟨v6, T6, X6, E6, g6⟩ := X4.callS hexec (LChA.law l t V i (lo8 (f i)) fm) hown (wks W (staticW "java/lang/String" 495 LChA.yN)) (wk W LChA.tab) (W := 0) (Nat.le_of_ble_eq_true rfl) (Nat.le_of_ble_eq_true rfl) (Nat.le_refl _) (Nat.le_refl _) (g := (mkF m 12 #[.val (.ref x), .val (.int (Int32.ofNat i))] [.int (Int32.ofNat i), .ref t])) rfl (by rw [hml]; rfl) c5 (argsL := [.ref t, .int (Int32.ofNat i)]) (rest := []) rfl rfl (by show 2 * 0 + 0 ≤ _; decide) (hb hbytes d12) (⟨rfl, hx.2.2.2.1.mv X4.warmed.alike hh4, (k2 i hi).1, s3.there X4.warmed.alike hh4, rf⟩)
    obtain ⟨rfl, q6⟩ := E6
    rw [chr8_lo8 hr.1 (k2 i hi).2] at g6
    exact ⟨T6, some (.int (f i)), _, _, _, X6, rfl, rfl, rfl, (fun h => by cases h), ⟨rfl, q6.trans hh4⟩, fun fs hl => Steps.trans g6 (X6.ireturnOut hexec hret (narrow_ch hr.1 hr.2) (Or.inr (Or.inr (Or.inr (Or.inl rfl)))) (hb hbytes d15) hl)⟩
  · exact absurd k0 (by decide)
theorem pays {l : Launch} {R : Room} {p : Program} {e : Env} {below : List Frame} {s : State} {sargs : Array Value} {len W : Nat} (x t : Addr) (V : Cell) (n : Nat) (f : Nat → Int32) (z : Int32) (fm : Value) (i : Nat) (htab : tab.before sargs s = true) (hfr : 4 ≤ R.frames) (hlo : W + 53 ≤ R.locals) :
    Back l R p e below s sargs yN len W (fun A₁ a₁ => A₁.cells + 0 ≤ R.cells ∧ A₁.slots + 0 ≤ R.slots ∧ P x t V n f z fm i a₁ A₁.U) (fun A₁ _ v₁ B₁ => E f i v₁ A₁.U B₁.U ∧ B₁.locs = A₁.locs ++ [] ∧ B₁.cells = A₁.cells + 0 ∧ B₁.slots = A₁.slots + 0) :=
  (law l x t V n f z fm i).pays htab hfr (by omega)
end ChN
end StrChars
namespace StrChars.Road
open Jvm Sem ClassFile Op Lib Jvm.Stand Jvm.Free Jvm.Free.XT
open Jvm.Lib.Cold (StaticIs)
/-- the words of String.charAt(int), the Latin-1 road alone -/
abbrev wordsChN : List Jvm.Cond := [.code ChN.yN ChN.yB 2 (some .char), .initialized ST, .fieldLink ST 9 ST "value" "[B", .fieldLink ST 38 ST "COMPACT_STRINGS" "Z", .fieldLink ST 15 ST "coder" "B", .code IsL.yN IsL.yB 1 (some .boolean), .methodLink ST 492 IsL.yN, .declares IsL.yN, .selects ST IsL.yN IsL.yN, .instanceMethod IsL.yN,
  .methodLink ST 495 LChA.yN, .static LChA.yN, .code LChA.yN LChA.yB 2 (some .char), .initialized "java/lang/StringLatin1", .methodLink "java/lang/StringLatin1" 9 JO.Str_checkIndex.yN, .static JO.Str_checkIndex.yN, .code JO.Str_checkIndex.yN JO.Str_checkIndex.yB 2 none,
  .fieldLink ST 1053 "jdk/internal/util/Preconditions" "SIOOBE_FORMATTER" "Ljava/util/function/BiFunction;", .methodLink ST 1059 JC.PreCheck.yN, .static JC.PreCheck.yN, .code JC.PreCheck.yN JC.PreCheck.yB 3 (some .int), .initialized "jdk/internal/util/Preconditions"]
theorem tabChN_of {a : Array Value} {s : State} (h : ∀ w ∈ wordsChN, w.before a s = true) : ChN.tab.before a s = true := by
  have hp : JC.PreCheck.tab.before a s = true := unparts (wk h (.code JC.PreCheck.yN JC.PreCheck.yB 3 (some .int))) (wks h (.initialized JC.PreCheck.yN.cls :: JC.PreCheck.site))
  have qk := consq hp h
  have hk : JO.Str_checkIndex.tab.before a s = true := unparts (wk qk (.code JO.Str_checkIndex.yN JO.Str_checkIndex.yB 2 none)) (wks qk (.initialized JO.Str_checkIndex.yN.cls :: JO.Str_checkIndex.site))
  have ql := consq hk h
  have hl : LChA.tab.before a s = true := unparts (wk ql (.code LChA.yN LChA.yB 2 (some .char))) (wks ql (.initialized LChA.yN.cls :: LChA.site))
  have hi : IsL.tab.before a s = true := unparts (wk h (.code IsL.yN IsL.yB 1 (some .boolean))) (wks h (.initialized IsL.yN.cls :: IsL.site))
  have q := consq hi (consq hl h)
  exact unparts (wk q (.code ChN.yN ChN.yB 2 (some .char))) (wks q (.initialized ChN.yN.cls :: ChN.site))
theorem movedChN {Z s : State} {a0 args : Array Value} (hZ : Z.Warmed39 s.vm) (hw : ∀ d ∈ wordsChN, d.before a0 Z = true) : ∀ d ∈ wordsChN, d.before args s = true := fun d hd => by
  have t : ∀ d ∈ wordsChN, (d.onTables && d.keepsFace) = true := by decide +kernel
  exact RoadKit.mv hZ (hw d hd) (t d hd)
/-- **charAt(i) OF A LATIN-1 STRING**, i < n: the char -/
theorem chN {p : Program} {l : Launch} {e : Env} {R : Room} {s : State} {args : Array Value} {below : List Frame} {len W : Nat} {Z : State} {a0 : Array Value} {h : Heap} (hZ : Z.Warmed39 s.vm) (hw : ∀ d ∈ wordsChN, d.before a0 Z = true) {kI : Nat} (wi : (Jvm.Cond.instantiable ST kI).before a0 Z = true)
    {x t : Addr} {kb : ClassId} {cs : List Int32} {N2 z : Int32} {vs : List Value} {fm : Value} {i : Nat} {j : Int32} (E : RoadKit.Exa Z h x ST) (V : RoadKit.Fld Z h x ST "value" "[B" (.ref t)) (C : RoadKit.Fld Z h x ST "coder" "B" (.int 0)) (K : RoadKit.Arv Z h t kb .byte N2 vs (.int 0)) (hc : CodA cs 0 N2 vs) (hb : ∀ c ∈ cs, ¬ c < 0 ∧ ¬ (65535 : Int32) < c)
    (S : RoadKit.Sta Z h ST "COMPACT_STRINGS" "Z" (.int z)) (hz : ¬ z = 0) (F : RoadKit.Sta Z h "jdk/internal/util/Preconditions" "SIOOBE_FORMATTER" "Ljava/util/function/BiFunction;" fm) (rf : fm.isRef = true) (l2 : cs.length ≤ 4000) (hi : i < cs.length) (hj : j = Int32.ofNat i) (hfr : 4 ≤ R.frames) (hlo : W + 53 ≤ R.locals) :
    Back l R p e below s args (⟨"java/lang/String", "charAt", "(I)C"⟩ : MethodName) len W (fun P a => a = #[.ref x, .int j] ∧ P.U.heap = h ∧ P.cells + 0 ≤ R.cells ∧ P.slots + 0 ≤ R.slots)
      (fun P _ v B => ∃ L, (v = some (.int (cs.getD i 0)) ∧ L = [] ∧ B.U.heap = h) ∧ B.locs = P.locs ++ L ∧ B.cells = P.cells + 0 ∧ B.slots = P.slots + 0) := by
  subst hj
  intro m meth c P g ig mk a X hg hsize hdg hW hn hp'
  obtain ⟨rfl, rfl, r1, r2⟩ := hp'
  have al : Z.vm.Alike P.U.vm := hZ.alike.trans X.warmed.alike
  obtain ⟨A, hx⟩ := txt_of wi al E V C K hc hb l2
  obtain ⟨v, B, X', ⟨⟨hv, hh⟩, hl, hk, hs⟩, st⟩ := ChN.pays x t A cs.length (fun j => cs.getD j 0) z fm i (tabChN_of (movedChN hZ hw)) hfr hlo m meth c P g ig mk _ X hg hsize hdg hW hn ⟨r1, r2, rfl, hx, hi, sta_is al S, hz, sta_is al F, rf⟩
  exact ⟨v, B, X', ⟨[], ⟨hv, rfl, hh⟩, hl, hk, hs⟩, st⟩
/-- what backV says of its String, as the contracts of this text ask it: cs's low bytes, coder 0 -/
theorem codOf {cs : List Int32} {n : Nat} (hn : cs.length = n) (hb : ∀ c ∈ cs, ¬ 255 < c) : CodA cs 0 (Int32.ofNat n) ((cs.map lo8).map Value.int) := Or.inl ⟨rfl, by rw [hn], by simp [List.map_map, Function.comp_def], hb⟩
end StrChars.Road
end Jvm.Pilot.@@N@@

namespace Jvm.Pilot.@@N@@
open Jvm Jvm.ClassFile Sem Op Lib Jvm.Free Jvm.Stand Jvm.LawKit Jvm.RoadKit Bundle Jvm.Pilot.@@N@@.Jvm.D
/-- from the point (T, g) the body comes to its end, with what P says of value, heap and places -/
def own_E (p : Program) (e : Env) (below : List Frame) (s : State) (k n : Nat) (P : Option Value → Heap → List Loc → Prop) (T : State) (g : JFrame) : Prop :=
  ∃ s₂ o, Steps p.tables e below (T.setTop g) s₂ ∧ s₂.status = .running ∧ Ended s₂ below o ∧ ∃ v L, o = .returned v ∧ P v s₂.heap L ∧ FrameEnd s o s₂ L k n
/-- what a law leaves: true, and nothing old written -/
def own_L (n0 : Nat) (v : Option Value) (h : Heap) (L : List Loc) : Prop := v = some (.int (1 : Int32)) ∧ Fr n0 L
section Own
variable {p : Program} {l : Launch} {e : Env} {R : Room} {s : State} {m : MethodId} {args : Array Value} {below : List Frame} {meth : Method} {c : Code} {T T' : State} {locs : List Loc} {cells slots : Nat} {k n : Nat} {P : Option Value → Heap → List Loc → Prop} {g g' : JFrame}
theorem own_st (h : ∀ t, Steps p.tables e below (T'.setTop g') t → Steps p.tables e below (T.setTop g) t) (E : own_E p e below s k n P T' g') : own_E p e below s k n P T g := by
  obtain ⟨s₂, o, h1, r⟩ := E; exact ⟨s₂, o, h _ h1, r⟩
theorem own_end (X : Stand p l e R s m args below meth c T locs cells slots) {v : Option Value} (hv : meth.sig.returnType = none → v = none) (hlk : meth.locks = false) (hk : cells ≤ k) (hn : slots ≤ n) (hP : P v T.heap locs)
    (h : ∀ fs : List Frame, (∀ (f : JFrame) (acts : List Action), f.method = m → f.locked = none → f.entered = [] → (doReturn e (T.setTop f) acts v).1 = T.setFrames fs) → Steps p.tables e below (T.setTop g) (T.setFrames fs)) : own_E p e below s k n P T g := by
  obtain ⟨fs, hr, hrun, hended, hW, hsame⟩ := X.leave (v := v) hv hlk
  exact ⟨_, _, h fs hr, hrun, hended, _, _, rfl, hP, ⟨_, rfl⟩, hW, hsame.mono hk hn⟩
theorem own_retV (X : Stand p l e R s m args below meth c T locs cells slots) (hx : p.tables.exec = Jvm.exec) (hret : meth.sig.returnType = none) (hlk : meth.locks = false) {pc : Nat} {Ls : Array Slot} (hd : decode c.code pc = .ok (.return_, 1)) (hk : cells ≤ k) (hn : slots ≤ n) (hP : P none T.heap locs) : own_E p e below s k n P T (mkF m pc Ls []) :=
  own_end X (fun _ => rfl) hlk hk hn hP fun _ hr => X.returnOut hx hret hd hr
theorem own_retN (X : Stand p l e R s m args below meth c T locs cells slots) (hx : p.tables.exec = Jvm.exec) {t : FieldType} (hret : meth.sig.returnType = some t) (ht : t = .boolean ∨ t = .byte ∨ t = .char ∨ t = .short) (hlk : meth.locks = false) {pc : Nat} {Ls : Array Slot} {z : Int32} {rest : List Value} (hd : decode c.code pc = .ok (.ireturn, 1)) (hk : cells ≤ k) (hn : slots ≤ n) (hP : P (some (.int (nar t z))) T.heap locs) : own_E p e below s k n P T (mkF m pc Ls (.int z :: rest)) :=
  own_end X (fun h => by rw [hret] at h; cases h) hlk hk hn hP fun _ hr => retN X hx hret ht hd hr
theorem own_retI (X : Stand p l e R s m args below meth c T locs cells slots) (hx : p.tables.exec = Jvm.exec) (hret : meth.sig.returnType = some .int) (hlk : meth.locks = false) {pc : Nat} {Ls : Array Slot} {z : Int32} {rest : List Value} (hd : decode c.code pc = .ok (.ireturn, 1)) (hk : cells ≤ k) (hn : slots ≤ n) (hP : P (some (.int z)) T.heap locs) : own_E p e below s k n P T (mkF m pc Ls (.int z :: rest)) :=
  own_end X (fun h => by rw [hret] at h; cases h) hlk hk hn hP fun _ hr => retOut X hx hret rfl (Or.inl ⟨rfl, Or.inl rfl, z, rfl⟩) hd hr
theorem own_retL (X : Stand p l e R s m args below meth c T locs cells slots) (hx : p.tables.exec = Jvm.exec) (hret : meth.sig.returnType = some .long) (hlk : meth.locks = false) {pc : Nat} {Ls : Array Slot} {z : Int64} {rest : List Value} (hd : decode c.code pc = .ok (.lreturn, 1)) (hk : cells ≤ k) (hn : slots ≤ n) (hP : P (some (.long z)) T.heap locs) : own_E p e below s k n P T (mkF m pc Ls (.long z :: rest)) :=
  own_end X (fun h => by rw [hret] at h; cases h) hlk hk hn hP fun _ hr => retOut X hx hret rfl (Or.inr (Or.inl ⟨rfl, rfl, z, rfl⟩)) hd hr
theorem own_narR {t : FieldType} {v : Value} (ht : t.isReference = true) : narrow t v = v := by cases t <;> first | (cases ht; done) | (cases v <;> rfl)
theorem own_fitR {t : FieldType} {v : Value} (h : v.isRef = true) (ht : t.isReference = true) : fits t v = true := by cases t <;> first | (cases ht; done) | (cases v <;> first | (cases h; done) | rfl)
theorem own_retA (X : Stand p l e R s m args below meth c T locs cells slots) (hx : p.tables.exec = Jvm.exec) {t : FieldType} (hret : meth.sig.returnType = some t) (ht : t.isReference = true) {w : Value} (hw : w.isRef = true) (hlk : meth.locks = false) {pc : Nat} {Ls : Array Slot} {rest : List Value} (hd : decode c.code pc = .ok (.areturn, 1)) (hk : cells ≤ k) (hn : slots ≤ n) (hP : P (some w) T.heap locs) : own_E p e below s k n P T (mkF m pc Ls (w :: rest)) :=
  own_end X (fun h => by rw [hret] at h; cases h) hlk hk hn hP fun _ hr => retOut X hx hret (own_narR ht) (Or.inr (Or.inr (Or.inr (Or.inr ⟨rfl, ht, hw⟩)))) hd hr
end Own
/-! the calls, their figures said plainly -/
section OwnCalls
variable {p : Program} {l : Launch} {e : Env} {R : Room} {s : State} {m : MethodId} {args : Array Value} {below : List Frame} {meth : Method} {c : Code} {T : State} {locs : List Loc} {cells slots : Nat} {W : Nat} {rm : Room} {as' : Array Value} {Q : Option Value → Heap → List Loc → Prop} {h : Heap} {c' s' : Nat}
theorem own_callS (X : Stand p l e R s m args below meth c T locs cells slots) (hx : p.tables.exec = Jvm.exec) {own : String} {index : Nat} {y : MethodName} {bytes : ByteArray} {maxL : Nat} {ret : Option FieldType} (hown : s.vm.findClass own = some m.cls) (hlink : (Cond.methodLink own index y).before args s = true) (hstat : (Cond.static y).before args s = true) (hinit : (Cond.initialized y.cls).before args s = true) (hcode : (Cond.code y bytes maxL ret).before args s = true) (hy : y.cls ≠ "java/lang/invoke/MethodHandle" ∧ y.cls ≠ "java/lang/invoke/VarHandle") (hK : Back l R p e below s args y 3 W (fun A a => a = as' ∧ A.U.heap = h ∧ A.cells + rm.cells ≤ R.cells ∧ A.slots + rm.slots ≤ R.slots) (fun A _ v B => ∃ L, Q v B.U.heap L ∧ B.locs = A.locs ++ L ∧ B.cells = A.cells + rm.cells ∧ B.slots = A.slots + rm.slots)) {g : JFrame} (hg : g.method = m) (hsize : g.locals.size = c.maxLocals) {argsL rest : List Value} (hlen : ∀ sig, parseMethodDescriptor y.desc = some sig → argsL.length = sig.parameters.length) (hstack : g.stack = argsL.reverse ++ rest) (hW : 2 * g.monitorRoom + (rest.map fun v => v.category).sum ≤ W) (hdg : decode c.code g.pc = .ok (.invokestatic index, 3)) (ha : argsL.toArray = as') (eT : T.heap = h) (hc : cells + rm.cells ≤ R.cells) (hs : slots + rm.slots ≤ R.slots) (h1 : cells + rm.cells = c') (h2 : slots + rm.slots = s') :
    ∃ (v : Option Value) (T' : State) (L : List Loc), Stand p l e R s m args below meth c T' (locs ++ L) c' s' ∧ Q v T'.heap L ∧ ∀ t, Steps p.tables e below (T'.setTop { g with pc := g.pc + 3, stack := v.toList ++ rest }) t → Steps p.tables e below (T.setTop g) t := by
  subst h1 h2
  obtain ⟨v, vm₁, ⟨T', L', k', n'⟩, -, X', ⟨L, hQ, h3, h4, h5⟩, st⟩ := Jvm.LawKit.callS X hx hown hlink hstat hinit hcode hy hK hg hsize hlen hstack hW hdg (fun _ _ => ⟨ha, eT, hc, hs⟩)
  dsimp only [Pt.U, Pt.locs, Pt.cells, Pt.slots] at X' h3 h4 h5 st hQ
  subst h3 h4 h5
  exact ⟨v, T', L, X', hQ, st⟩
theorem own_callI (X : Stand p l e R s m args below meth c T locs cells slots) (hx : p.tables.exec = Jvm.exec) {own : String} {index : Nat} {y : MethodName} {bytes : ByteArray} {maxL : Nat} (hy1 : y.name = "<init>") (hown : s.vm.findClass own = some m.cls) (hlink : (Cond.methodLink own index y).before args s = true) (hinst : (Cond.instanceMethod y).before args s = true) (hcode : (Cond.code y bytes maxL none).before args s = true) (hy : y.cls ≠ "java/lang/invoke/MethodHandle" ∧ y.cls ≠ "java/lang/invoke/VarHandle") (hK : Back l R p e below s args y 3 W (fun A a => a = as' ∧ A.U.heap = h ∧ A.cells + rm.cells ≤ R.cells ∧ A.slots + rm.slots ≤ R.slots) (fun A _ v B => ∃ L, Q v B.U.heap L ∧ B.locs = A.locs ++ L ∧ B.cells = A.cells + rm.cells ∧ B.slots = A.slots + rm.slots)) {g : JFrame} (hg : g.method = m) (hsize : g.locals.size = c.maxLocals) {a : Addr} {argsL rest : List Value} (hlen : ∀ sig, parseMethodDescriptor y.desc = some sig → argsL.length = sig.parameters.length) (hstack : g.stack = argsL.reverse ++ .ref a :: rest) (hW : 2 * g.monitorRoom + (rest.map fun v => v.category).sum ≤ W) (hdg : decode c.code g.pc = .ok (.invokespecial index, 3)) (ha : (.ref a :: argsL).toArray = as') (eT : T.heap = h) (hc : cells + rm.cells ≤ R.cells) (hs : slots + rm.slots ≤ R.slots) (h1 : cells + rm.cells = c') (h2 : slots + rm.slots = s') :
    ∃ (v : Option Value) (T' : State) (L : List Loc), Stand p l e R s m args below meth c T' (locs ++ L) c' s' ∧ Q v T'.heap L ∧ ∀ t, Steps p.tables e below (T'.setTop { g with pc := g.pc + 3, stack := v.toList ++ rest }) t → Steps p.tables e below (T.setTop g) t := by
  subst h1 h2
  obtain ⟨v, vm₁, ⟨T', L', k', n'⟩, -, X', ⟨L, hQ, h3, h4, h5⟩, st⟩ := X.specialBack hx hy1 hown hlink hinst hcode hy hK hg hsize (Steps.refl _) hlen hstack hW hdg (fun _ _ => ⟨ha, eT, hc, hs⟩)
  dsimp only [Pt.U, Pt.locs, Pt.cells, Pt.slots] at X' h3 h4 h5 st hQ
  subst h3 h4 h5
  exact ⟨v, T', L, X', hQ, fun t k => st.trans k⟩
theorem own_callP (X : Stand p l e R s m args below meth c T locs cells slots) (hx : p.tables.exec = Jvm.exec) {own : String} {index : Nat} {y : MethodName} {bytes : ByteArray} {maxL : Nat} {ret : Option FieldType} (hown : s.vm.findClass own = some m.cls) (hlink : (Cond.methodLink own index y).before args s = true) (hinst : (Cond.instanceMethod y).before args s = true) (hsel : (Cond.selects y.cls y y).before args s = true) (hpriv : s.PrivateAt y) (hcode : (Cond.code y bytes maxL ret).before args s = true) (hy : y.cls ≠ "java/lang/invoke/MethodHandle" ∧ y.cls ≠ "java/lang/invoke/VarHandle") (hK : Back l R p e below s args y 3 W (fun A a => a = as' ∧ A.U.heap = h ∧ A.cells + rm.cells ≤ R.cells ∧ A.slots + rm.slots ≤ R.slots) (fun A _ v B => ∃ L, Q v B.U.heap L ∧ B.locs = A.locs ++ L ∧ B.cells = A.cells + rm.cells ∧ B.slots = A.slots + rm.slots)) {g : JFrame} (hg : g.method = m) (hsize : g.locals.size = c.maxLocals) {a : Addr} {cell : Cell} (hcell : T.heap[a]? = some cell) (hobj : ∀ q, cell.vm ≠ .statics q) {argsL rest : List Value} (hlen : ∀ sig, parseMethodDescriptor y.desc = some sig → argsL.length = sig.parameters.length) (hstack : g.stack = argsL.reverse ++ .ref a :: rest) (hW : 2 * g.monitorRoom + (rest.map fun v => v.category).sum ≤ W) (hdg : decode c.code g.pc = .ok (.invokevirtual index, 3)) (ha : (.ref a :: argsL).toArray = as') (eT : T.heap = h) (hc : cells + rm.cells ≤ R.cells) (hs : slots + rm.slots ≤ R.slots) (h1 : cells + rm.cells = c') (h2 : slots + rm.slots = s') :
    ∃ (v : Option Value) (T' : State) (L : List Loc), Stand p l e R s m args below meth c T' (locs ++ L) c' s' ∧ Q v T'.heap L ∧ ∀ t, Steps p.tables e below (T'.setTop { g with pc := g.pc + 3, stack := v.toList ++ rest }) t → Steps p.tables e below (T.setTop g) t := by
  subst h1 h2
  obtain ⟨v, vm₁, ⟨T', L', k', n'⟩, -, X', ⟨L, hQ, h3, h4, h5⟩, st⟩ := X.privateBack hx hown hlink hinst hsel hpriv hcode hy hK hg hsize (Steps.refl _) hcell hobj hlen hstack hW hdg (fun _ _ => ⟨ha, eT, hc, hs⟩)
  dsimp only [Pt.U, Pt.locs, Pt.cells, Pt.slots] at X' h3 h4 h5 st hQ
  subst h3 h4 h5
  exact ⟨v, T', L, X', hQ, fun t k => st.trans k⟩
theorem own_callV (X : Stand p l e R s m args below meth c T locs cells slots) (hx : p.tables.exec = Jvm.exec) {own : String} {index : Nat} {C : String} {y z : MethodName} (hown : s.vm.findClass own = some m.cls) (hlink : (Cond.methodLink own index y).before args s = true) (hdecl : (Cond.declares y).before args s = true) (hnf : NotFace s y) (hsel : (Cond.selects C y z).before args s = true) (hinst : (Cond.instanceMethod z).before args s = true) (hy : y.cls ≠ "java/lang/invoke/MethodHandle" ∧ y.cls ≠ "java/lang/invoke/VarHandle") (hK : Back l R p e below s args z 3 W (fun A a => a = as' ∧ A.U.heap = h ∧ A.cells + rm.cells ≤ R.cells ∧ A.slots + rm.slots ≤ R.slots) (fun A _ v B => ∃ L, Q v B.U.heap L ∧ B.locs = A.locs ++ L ∧ B.cells = A.cells + rm.cells ∧ B.slots = A.slots + rm.slots)) {b : Addr} {cB : ClassId} (hcB : s.vm.findClass C = some cB) (hrecv : IsOf cB T b) {g : JFrame} (hg : g.method = m) (hsize : g.locals.size = c.maxLocals) {argsL rest : List Value} (hlen : ∀ sig, parseMethodDescriptor y.desc = some sig → argsL.length = sig.parameters.length) (hstack : g.stack = argsL.reverse ++ .ref b :: rest) (hW : 2 * g.monitorRoom + (rest.map fun v => v.category).sum ≤ W) (hdg : decode c.code g.pc = .ok (.invokevirtual index, 3)) (ha : (.ref b :: argsL).toArray = as') (eT : T.heap = h) (hc : cells + rm.cells ≤ R.cells) (hs : slots + rm.slots ≤ R.slots) (h1 : cells + rm.cells = c') (h2 : slots + rm.slots = s') :
    ∃ (v : Option Value) (T' : State) (L : List Loc), Stand p l e R s m args below meth c T' (locs ++ L) c' s' ∧ Q v T'.heap L ∧ ∀ t, Steps p.tables e below (T'.setTop { g with pc := g.pc + 3, stack := v.toList ++ rest }) t → Steps p.tables e below (T.setTop g) t := by
  subst h1 h2
  obtain ⟨v, vm₁, ⟨T', L', k', n'⟩, -, X', ⟨L, hQ, h3, h4, h5⟩, st⟩ := X.virtualBack hx hown hlink hdecl hnf hsel hinst hy hK hcB hrecv hg hsize (Steps.refl _) hlen hstack hW hdg (fun _ _ => ⟨ha, eT, hc, hs⟩)
  dsimp only [Pt.U, Pt.locs, Pt.cells, Pt.slots] at X' h3 h4 h5 st hQ
  subst h3 h4 h5
  exact ⟨v, T', L, X', hQ, fun t k => st.trans k⟩
theorem own_callF (X : Stand p l e R s m args below meth c T locs cells slots) (hx : p.tables.exec = Jvm.exec) {own : String} {index count : Nat} {C : String} {xi y : MethodName} (hown : s.vm.findClass own = some m.cls) (hlink : (Cond.methodLink own index xi).before args s = true) (hdecl : (Cond.declares xi).before args s = true) (hface : (Cond.interfaceMethod xi.cls xi.cls xi.name xi.desc).before args s = true) (hsel : (Cond.selects C xi y).before args s = true) (hinst : (Cond.instanceMethod y).before args s = true) (hpub : (Cond.publicMethod y).before args s = true) (hunh : (Cond.unhidden C xi.name xi.desc).before args s = true) (hcast : (Cond.castable C xi.cls).before args s = true) (hy : xi.cls ≠ "java/lang/invoke/MethodHandle" ∧ xi.cls ≠ "java/lang/invoke/VarHandle") (hK : Back l R p e below s args y 5 W (fun A a => a = as' ∧ A.U.heap = h ∧ A.cells + rm.cells ≤ R.cells ∧ A.slots + rm.slots ≤ R.slots) (fun A _ v B => ∃ L, Q v B.U.heap L ∧ B.locs = A.locs ++ L ∧ B.cells = A.cells + rm.cells ∧ B.slots = A.slots + rm.slots)) {b : Addr} {cB : ClassId} {kB : Class} (hcB : s.vm.findClass C = some cB) (hkB : s.vm.classes[cB]? = some kB) (hrecv : IsOf cB T b) {g : JFrame} (hg : g.method = m) (hsize : g.locals.size = c.maxLocals) {argsL rest : List Value} (hlen : ∀ sig, parseMethodDescriptor xi.desc = some sig → argsL.length = sig.parameters.length) (hstack : g.stack = argsL.reverse ++ .ref b :: rest) (hW : 2 * g.monitorRoom + (rest.map fun v => v.category).sum ≤ W) (hdg : decode c.code g.pc = .ok (.invokeinterface index count, 5)) (ha : (.ref b :: argsL).toArray = as') (eT : T.heap = h) (hc : cells + rm.cells ≤ R.cells) (hs : slots + rm.slots ≤ R.slots) (h1 : cells + rm.cells = c') (h2 : slots + rm.slots = s') :
    ∃ (v : Option Value) (T' : State) (L : List Loc), Stand p l e R s m args below meth c T' (locs ++ L) c' s' ∧ Q v T'.heap L ∧ ∀ t, Steps p.tables e below (T'.setTop { g with pc := g.pc + 5, stack := v.toList ++ rest }) t → Steps p.tables e below (T.setTop g) t := by
  subst h1 h2
  obtain ⟨v, vm₁, ⟨T', L', k', n'⟩, -, X', ⟨L, hQ, h3, h4, h5⟩, st⟩ := X.interfaceBack hx hown hlink hdecl hface hsel hinst hpub hunh hcast hy hK hcB hkB hrecv hg hsize (Steps.refl _) hlen hstack hW hdg (fun _ _ => ⟨ha, eT, hc, hs⟩)
  dsimp only [Pt.U, Pt.locs, Pt.cells, Pt.slots] at X' h3 h4 h5 st hQ
  subst h3 h4 h5
  exact ⟨v, T', L, X', hQ, fun t k => st.trans k⟩
end OwnCalls
theorem own_z {Z : State} {n0 : Nat} {h : Heap} (O : Old Z n0 h) : n0 ≤ h.size := O.1 ▸ O.2.1
theorem own_oldlt {Z : State} {n0 : Nat} {h : Heap} {a : Addr} (O : Old Z n0 h) (q : a < Z.heap.size) : a < h.size := Nat.lt_of_lt_of_le q O.2.1
theorem own_ext {h h' : Heap} (K : Keep h h' []) : Ext h h' := ⟨K.1, fun x c q => K.2.1 x c q nin0⟩
theorem own_fld0 {args : Array Value} {Z : State} {t : Term} {a : Addr} {C n d : String} {k : Int32} (ev : t.eval args Z none [] Z = some (.ref a)) (h : (Jvm.Cond.eq (Term.field t C n d) (Term.int k)).value args Z none Z [] = some true) : Fld Z Z.heap a C n d (.int k) := by
  cases hv : Z.fieldOf? a C n d with
  | none => simp [Cond.value, Term.eval, ev, hv] at h
  | some x => cases x <;> simp [Cond.value, Term.eval, ev, hv] at h; subst h; exact Fld.start hv
theorem own_nz {args : Array Value} {Z : State} {t : Term} {cz : Int32} (ev : t.eval args Z none [] Z = some (.int cz)) (h : (Jvm.Cond.not (Jvm.Cond.eq t (Term.int (0 : Int32)))).value args Z none Z [] = some true) : ¬ cz = (0 : Int32) := by
  simpa [Cond.value, ev, Term.eval] using h
theorem own_neF {Z : State} {h : Heap} {a b : Addr} {C n d : String} {x y : Value} (F : Fld Z h a C n d x) (G : Fld Z h b C n d y) (q : x ≠ y) : a ≠ b := fun e => by
  subst e
  obtain ⟨c1, cf1, k1, i1, f1, h1, h2, -, -, -, -, h7⟩ := F
  obtain ⟨c2, cf2, k2, i2, f2, g1, g2, -, -, -, -, g7⟩ := G
  cases h1.symm.trans g1
  cases h2.symm.trans g2
  exact q (Option.some.inj (h7.symm.trans g7))
theorem own_rem (x y : Int32) (d : Int) (hd : 0 < d) (hy : y.toInt = d) : 0 ≤ ((x &&& 2147483647) % y).toInt ∧ ((x &&& 2147483647) % y).toInt < d := by
  have h1 := (c_andS x 2147483647).2.2 (by decide)
  have h2 := (c_irem (x &&& 2147483647) y d hy).1 h1
  rw [h2]; exact ⟨Int.emod_nonneg _ (by omega), Int.emod_lt_of_pos _ hd⟩
theorem own_nc (x : Int32) : nar .char ((x &&& 255).toUInt32.toUInt16.toUInt32.toInt32) = x &&& 255 := by
  show ((x &&& 255).toUInt32.toUInt16.toUInt32.toInt32).toUInt32.toUInt16.toUInt32.toInt32 = _
  rw [i2c_mask, i2c_mask]
theorem own_ncm (x : Int32) : nar .char (x &&& 255) = x &&& 255 := i2c_mask x
theorem own_bb (b : Int32) : nar .byte (b.toInt8.toInt32) = b.toInt8.toInt32 := by
  show b.toInt8.toInt32.toInt8.toInt32 = _
  have h1 := c_i2b b
  have h2 := c_i2b b.toInt8.toInt32
  exact Int32.toInt_inj.mp (by omega)
theorem own_neA {Z : State} {h : Heap} {a b : Addr} {C : String} {k : Nat} {a0 : Array Value} {kb : ClassId} {ty : FieldType} {n : Int32} {vs : List Value} {dv : Value} (E : Exa Z h a C) (wi : (Jvm.Cond.instantiable C k).before a0 Z = true) (F : Arv Z h b kb ty n vs dv) : a ≠ b := by
  obtain ⟨c, A, -⟩ := F; exact ne_arr E wi A
theorem own_r255 (x : Int32) : ¬ (x &&& 255) < (0 : Int32) ∧ ¬ (255 : Int32) < (x &&& 255) := by
  have e := c_mask x 255 8 (by decide) (by decide)
  have z0 : (0 : Int32).toInt = 0 := rfl
  have z1 : (255 : Int32).toInt = 255 := rfl
  have z2 : ((2 ^ 8 : Nat) : Int) = 256 := rfl
  constructor <;> rw [Int32.lt_iff_toInt_lt] <;> omega
theorem own_c255 (x : Int32) : ¬ (255 : Int32) < nar .char ((x &&& 255).toUInt32.toUInt16.toUInt32.toInt32) := by rw [own_nc]; exact (own_r255 x).2
theorem own_eqI {x y : Int32} (h : x.toInt = y.toInt) : x = y := Int32.toInt_inj.mp h
/-- own_E where String constants may be met: the tables may have been warmed widely; EL: the constants whose texts are held -/
def own_W (p : Program) (e : Env) (below : List Frame) (s : State) (k n : Nat) (Z : State) (EL : List (String × Nat)) (hs : Heap) (P : Option Value → Heap → List Loc → Prop) (T : State) (g : JFrame) : Prop :=
  ∃ s₂ o, Steps p.tables e below (T.setTop g) s₂ ∧ s₂.status = .running ∧ Ended s₂ below o ∧ ∃ v L, o = .returned v ∧ P v s₂.heap L ∧ CHr Z EL s.vm hs s₂.vm s₂.heap ∧ ReturnedEndW s o s₂ L k n
section OwnW
variable {p : Program} {l : Launch} {e : Env} {R : Room} {s : State} {m : MethodId} {args : Array Value} {below : List Frame} {meth : Method} {c : Code} {T T' : State} {locs : List Loc} {cells slots : Nat} {k n : Nat} {P : Option Value → Heap → List Loc → Prop} {g g' : JFrame} {Z : State} {EL : List (String × Nat)} {vm0 : Vm} {k0 : Nat} {a0 : Array Value} {hs : Heap}
theorem own_W0 (hh : s.heap = hs) (E : own_W p e below s k n Z EL hs P T g) : ∃ s₂ o, Steps p.tables e below (T.setTop g) s₂ ∧ s₂.status = .running ∧ Ended s₂ below o ∧ ∃ v L, o = .returned v ∧ P v s₂.heap L ∧ CHr Z EL s.vm s.heap s₂.vm s₂.heap ∧ ReturnedEndW s o s₂ L k n := by
  subst hh; exact E
theorem own_hZ (hZ : Z.Warmed39 s.vm) (hS : s.Since vm0 k0) : Z.Warmed39 (s.setVm vm0).vm := State.Warmed39.trans (t := s) hZ hS.1
theorem own_hown {own : String} {cc : ClassId} (h : s.vm.findClass own = some cc) (hS : s.Since vm0 k0) : (s.setVm vm0).vm.findClass own = some cc := by
  rw [show (s.setVm vm0).vm = vm0 from rfl, hS.1.alike.findClass]; exact h
theorem own_stW (h : ∀ t, Steps p.tables e below (T'.setTop g') t → Steps p.tables e below (T.setTop g) t) (E : own_W p e below s k n Z EL hs P T' g') : own_W p e below s k n Z EL hs P T g := by
  obtain ⟨s₂, o, h1, r⟩ := E; exact ⟨s₂, o, h _ h1, r⟩
theorem own_endW (X : Stand p l e R (s.setVm vm0) m args below meth c T locs cells slots) (hZ : Z.Warmed39 vm0) (hS : s.Since vm0 k0) (hk0 : k0 ≤ T.heap.size) (hEL : EW Z a0 EL) (A : CHr Z EL s.vm hs vm0 T.heap) {v : Option Value} (hv : meth.sig.returnType = none → v = none) (hlk : meth.locks = false) (hk : cells ≤ k) (hn : slots ≤ n) (hP : P v T.heap locs)
    (h : ∀ fs : List Frame, (∀ (f : JFrame) (acts : List Action), f.method = m → f.locked = none → f.entered = [] → (doReturn e (T.setTop f) acts v).1 = T.setFrames fs) → Steps p.tables e below (T.setTop g) (T.setFrames fs)) : own_W p e below s k n Z EL hs P T g := by
  obtain ⟨fs, hr, hrun, hended, r1, r2, r3, r4⟩ := X.leaveW hS hk0 (v := v) hv hlk
  exact ⟨_, _, h fs hr, hrun, hended, _, _, rfl, hP, A.trans (show CHr Z EL vm0 T.heap T.vm T.heap from CHv.at X hZ hEL A.1), r1, r2, r3, r4.mono hk hn⟩
theorem own_retVW (X : Stand p l e R (s.setVm vm0) m args below meth c T locs cells slots) (hZ : Z.Warmed39 vm0) (hS : s.Since vm0 k0) (hk0 : k0 ≤ T.heap.size) (hEL : EW Z a0 EL) (A : CHr Z EL s.vm hs vm0 T.heap) (hx : p.tables.exec = Jvm.exec) (hret : meth.sig.returnType = none) (hlk : meth.locks = false) {pc : Nat} {Ls : Array Slot} (hd : decode c.code pc = .ok (.return_, 1)) (hk : cells ≤ k) (hn : slots ≤ n) (hP : P none T.heap locs) : own_W p e below s k n Z EL hs P T (mkF m pc Ls []) :=
  own_endW X hZ hS hk0 hEL A (fun _ => rfl) hlk hk hn hP fun _ hr => X.returnOut hx hret hd hr
theorem own_retNW (X : Stand p l e R (s.setVm vm0) m args below meth c T locs cells slots) (hZ : Z.Warmed39 vm0) (hS : s.Since vm0 k0) (hk0 : k0 ≤ T.heap.size) (hEL : EW Z a0 EL) (A : CHr Z EL s.vm hs vm0 T.heap) (hx : p.tables.exec = Jvm.exec) {t : FieldType} (hret : meth.sig.returnType = some t) (ht : t = .boolean ∨ t = .byte ∨ t = .char ∨ t = .short) (hlk : meth.locks = false) {pc : Nat} {Ls : Array Slot} {z : Int32} {rest : List Value} (hd : decode c.code pc = .ok (.ireturn, 1)) (hk : cells ≤ k) (hn : slots ≤ n) (hP : P (some (.int (nar t z))) T.heap locs) : own_W p e below s k n Z EL hs P T (mkF m pc Ls (.int z :: rest)) :=
  own_endW X hZ hS hk0 hEL A (fun h => by rw [hret] at h; cases h) hlk hk hn hP fun _ hr => retN X hx hret ht hd hr
theorem own_retIW (X : Stand p l e R (s.setVm vm0) m args below meth c T locs cells slots) (hZ : Z.Warmed39 vm0) (hS : s.Since vm0 k0) (hk0 : k0 ≤ T.heap.size) (hEL : EW Z a0 EL) (A : CHr Z EL s.vm hs vm0 T.heap) (hx : p.tables.exec = Jvm.exec) (hret : meth.sig.returnType = some .int) (hlk : meth.locks = false) {pc : Nat} {Ls : Array Slot} {z : Int32} {rest : List Value} (hd : decode c.code pc = .ok (.ireturn, 1)) (hk : cells ≤ k) (hn : slots ≤ n) (hP : P (some (.int z)) T.heap locs) : own_W p e below s k n Z EL hs P T (mkF m pc Ls (.int z :: rest)) :=
  own_endW X hZ hS hk0 hEL A (fun h => by rw [hret] at h; cases h) hlk hk hn hP fun _ hr => retOut X hx hret rfl (Or.inl ⟨rfl, Or.inl rfl, z, rfl⟩) hd hr
theorem own_retAW (X : Stand p l e R (s.setVm vm0) m args below meth c T locs cells slots) (hZ : Z.Warmed39 vm0) (hS : s.Since vm0 k0) (hk0 : k0 ≤ T.heap.size) (hEL : EW Z a0 EL) (A : CHr Z EL s.vm hs vm0 T.heap) (hx : p.tables.exec = Jvm.exec) {t : FieldType} (hret : meth.sig.returnType = some t) (ht : t.isReference = true) {w : Value} (hw : w.isRef = true) (hlk : meth.locks = false) {pc : Nat} {Ls : Array Slot} {rest : List Value} (hd : decode c.code pc = .ok (.areturn, 1)) (hk : cells ≤ k) (hn : slots ≤ n) (hP : P (some w) T.heap locs) : own_W p e below s k n Z EL hs P T (mkF m pc Ls (w :: rest)) :=
  own_endW X hZ hS hk0 hEL A (fun h => by rw [hret] at h; cases h) hlk hk hn hP fun _ hr => retOut X hx hret (own_narR ht) (Or.inr (Or.inr (Or.inr (Or.inr ⟨rfl, ht, hw⟩)))) hd hr
/-- who pays a callee of ours that may meet String constants: 'sf', the objects that are none of them -/
theorem own_backW {y : MethodName} {bytes : ByteArray} {maxL : Nat} {ret : Option FieldType} {rm : Room} {len W : Nat} {as' : Array Value} {Q : Option Value → Heap → List Loc → Prop} {h : Heap} {sf : List Addr}
    (hM : MetFree l y (head1 [Jvm.Cond.code y bytes maxL ret] rm) (fun a U => a = as' ∧ Z.Warmed39 U.vm ∧ U.heap = h ∧ CHv Z EL U.vm h ∧ ∀ x ∈ sf, Safe Z EL U.vm h x) (fun _ _ _ _ _ => True) (fun _ U o U' => ∃ v L, o = .returned v ∧ Q v U'.heap L ∧ CHr Z EL U.vm U.heap U'.vm U'.heap ∧ ReturnedEndW U o U' L rm.cells rm.slots))
    (hZ : Z.Warmed39 (s.setVm vm0).vm) (wc : (Jvm.Cond.code y bytes maxL ret).before a0 Z = true) (wz : (Jvm.Cond.initialized y.cls).before a0 Z = true) (hf : rm.frames + 1 ≤ R.frames) (hl : W + (maxL + 11) + rm.locals ≤ R.locals) (hEL : EW Z a0 EL) (H : CHv Z EL vm0 h) (S : ∀ x ∈ sf, Safe Z EL vm0 h x) (St : ∀ x ∈ sf, x < h.size) :
    BackS l R p e below (s.setVm vm0) args y len W (fun A a => a = as' ∧ A.U.heap = h ∧ A.cells + rm.cells ≤ R.cells ∧ A.slots + rm.slots ≤ R.slots)
      (fun A _ v B => ∃ L, Q v B.U.heap L ∧ B.locs = A.locs ++ L ∧ B.cells = A.cells + rm.cells ∧ B.slots = A.slots + rm.slots ∧ CHr Z EL vm0 h B.U.vm B.U.heap) := by
  have hZ' : Z.Warmed39 vm0 := hZ
  refine BackS.of_freeW (bytes := bytes) (maxL := maxL) (ret := ret) (E := fun _ first o t L k n => k = rm.cells ∧ n = rm.slots ∧ (∃ v, o = .returned v ∧ Q v t.heap L) ∧ CHr Z EL first.vm first.heap t.vm t.heap) hM hf hl ?_ ?_ (fun _ _ _ _ _ _ _ _ _ => trivial) ?_ ?_
  · intro m meth c A a Y hp
    have hU : Z.Warmed39 A.U.vm := wtrans (s := s.setVm vm0) hZ Y.warmed
    refine ⟨?_, mv hU wc, mv hU wz, hp.2.2.1, hp.2.2.2⟩
    show (Jvm.Cond.and _ .tt).before a A.U = true
    rw [Cond.before_and, mv hU wc]; rfl
  · intro m meth c A a g mk Y hp
    have K := CHv.at Y hZ' hEL H
    exact ⟨hp.1, wtrans (s := s.setVm vm0) hZ Y.warmed, hp.2.1, K.1, fun x hx => K.safe (St x hx) (S x hx)⟩
  · rintro _ _ _ _ ⟨v, L, h1, h2, h3, h4⟩
    exact ⟨L, _, _, h4, rfl, rfl, ⟨v, h1, h2⟩, h3⟩
  · rintro m meth c A a g mk v t L k n Y hp _ _ ⟨e1, e2, ⟨v', e3, e4⟩, e5⟩
    cases e3; subst e1 e2
    refine ⟨L, e4, rfl, rfl, rfl, (CHv.at Y hZ' hEL H).trans ?_⟩
    rw [← hp.2.1]; exact e5
theorem own_callSW {W : Nat} {rm : Room} {as' : Array Value} {Q : Option Value → Heap → List Loc → Prop} {h : Heap} {c' s' : Nat} (X : Stand p l e R (s.setVm vm0) m args below meth c T locs cells slots) (hx : p.tables.exec = Jvm.exec) {own : String} {index : Nat} {y : MethodName} {bytes : ByteArray} {maxL : Nat} {ret : Option FieldType} (hown : (s.setVm vm0).vm.findClass own = some m.cls) (hlink : (Jvm.Cond.methodLink own index y).before args (s.setVm vm0) = true) (hstat : (Jvm.Cond.static y).before args (s.setVm vm0) = true) (hinit : (Jvm.Cond.initialized y.cls).before args (s.setVm vm0) = true) (hcode : (Jvm.Cond.code y bytes maxL ret).before args (s.setVm vm0) = true) (hy : y.cls ≠ "java/lang/invoke/MethodHandle" ∧ y.cls ≠ "java/lang/invoke/VarHandle") (hK : BackS l R p e below (s.setVm vm0) args y 3 W (fun A a => a = as' ∧ A.U.heap = h ∧ A.cells + rm.cells ≤ R.cells ∧ A.slots + rm.slots ≤ R.slots) (fun A _ v B => ∃ L, Q v B.U.heap L ∧ B.locs = A.locs ++ L ∧ B.cells = A.cells + rm.cells ∧ B.slots = A.slots + rm.slots ∧ CHr Z EL vm0 h B.U.vm B.U.heap)) {g : JFrame} (hg : g.method = m) (hsize : g.locals.size = c.maxLocals) {argsL rest : List Value} (hlen : ∀ sig, parseMethodDescriptor y.desc = some sig → argsL.length = sig.parameters.length) (hstack : g.stack = argsL.reverse ++ rest) (hW : 2 * g.monitorRoom + (rest.map fun v => v.category).sum ≤ W) (hdg : decode c.code g.pc = .ok (.invokestatic index, 3)) (ha : argsL.toArray = as') (eT : T.heap = h) (hc : cells + rm.cells ≤ R.cells) (hs' : slots + rm.slots ≤ R.slots) (h1 : cells + rm.cells = c') (h2 : slots + rm.slots = s') (hS : s.Since vm0 k0) (hk : k0 ≤ h.size) :
    ∃ (v : Option Value) (T' : State) (L : List Loc), Stand p l e R (s.setVm T'.vm) m args below meth c T' (locs ++ L) c' s' ∧ s.Since T'.vm T'.heap.size ∧ Q v T'.heap L ∧ CHr Z EL vm0 h T'.vm T'.heap ∧ ∀ t, Steps p.tables e below (T'.setTop { g with pc := g.pc + 3, stack := v.toList ++ rest }) t → Steps p.tables e below (T.setTop g) t := by
  subst h1 h2
  obtain ⟨v, vm₁, ⟨T', L', k', n'⟩, -, X', hS2, hgr, ⟨L, hQ, h3, h4, h5, ch⟩, st⟩ := callSS X hx hown hlink hstat hinit hcode hy hK hg hsize hlen hstack hW hdg (fun _ _ => ⟨ha, eT, hc, hs'⟩)
  dsimp only [Pt.U, Pt.locs, Pt.cells, Pt.slots] at X' hS2 hgr h3 h4 h5 st hQ ch
  subst h3 h4 h5
  exact ⟨v, T', L, X', hS.trans hS2 (Nat.le_trans (eT ▸ hk) hgr), hQ, ch, fun t k => st.trans k⟩
theorem own_callIW {W : Nat} {rm : Room} {as' : Array Value} {Q : Option Value → Heap → List Loc → Prop} {h : Heap} {c' s' : Nat} (X : Stand p l e R (s.setVm vm0) m args below meth c T locs cells slots) (hx : p.tables.exec = Jvm.exec) {own : String} {index : Nat} {y : MethodName} {bytes : ByteArray} {maxL : Nat} (hy1 : y.name = "<init>") (hown : (s.setVm vm0).vm.findClass own = some m.cls) (hlink : (Jvm.Cond.methodLink own index y).before args (s.setVm vm0) = true) (hinst : (Jvm.Cond.instanceMethod y).before args (s.setVm vm0) = true) (hcode : (Jvm.Cond.code y bytes maxL none).before args (s.setVm vm0) = true) (hy : y.cls ≠ "java/lang/invoke/MethodHandle" ∧ y.cls ≠ "java/lang/invoke/VarHandle") (hK : BackS l R p e below (s.setVm vm0) args y 3 W (fun A a => a = as' ∧ A.U.heap = h ∧ A.cells + rm.cells ≤ R.cells ∧ A.slots + rm.slots ≤ R.slots) (fun A _ v B => ∃ L, Q v B.U.heap L ∧ B.locs = A.locs ++ L ∧ B.cells = A.cells + rm.cells ∧ B.slots = A.slots + rm.slots ∧ CHr Z EL vm0 h B.U.vm B.U.heap)) {g : JFrame} (hg : g.method = m) (hsize : g.locals.size = c.maxLocals) {a : Addr} {argsL rest : List Value} (hlen : ∀ sig, parseMethodDescriptor y.desc = some sig → argsL.length = sig.parameters.length) (hstack : g.stack = argsL.reverse ++ .ref a :: rest) (hW : 2 * g.monitorRoom + (rest.map fun v => v.category).sum ≤ W) (hdg : decode c.code g.pc = .ok (.invokespecial index, 3)) (ha : (.ref a :: argsL).toArray = as') (eT : T.heap = h) (hc : cells + rm.cells ≤ R.cells) (hs' : slots + rm.slots ≤ R.slots) (h1 : cells + rm.cells = c') (h2 : slots + rm.slots = s') (hS : s.Since vm0 k0) (hk : k0 ≤ h.size) :
    ∃ (v : Option Value) (T' : State) (L : List Loc), Stand p l e R (s.setVm T'.vm) m args below meth c T' (locs ++ L) c' s' ∧ s.Since T'.vm T'.heap.size ∧ Q v T'.heap L ∧ CHr Z EL vm0 h T'.vm T'.heap ∧ ∀ t, Steps p.tables e below (T'.setTop { g with pc := g.pc + 3, stack := v.toList ++ rest }) t → Steps p.tables e below (T.setTop g) t := by
  subst h1 h2
  obtain ⟨v, vm₁, ⟨T', L', k', n'⟩, -, X', hS2, hgr, ⟨L, hQ, h3, h4, h5, ch⟩, st⟩ := X.specialBackS hx hy1 hown hlink hinst hcode hy hK hg hsize (Steps.refl _) hlen hstack hW hdg (fun _ _ => ⟨ha, eT, hc, hs'⟩)
  dsimp only [Pt.U, Pt.locs, Pt.cells, Pt.slots] at X' hS2 hgr h3 h4 h5 st hQ ch
  subst h3 h4 h5
  exact ⟨v, T', L, X', hS.trans hS2 (Nat.le_trans (eT ▸ hk) hgr), hQ, ch, fun t k => st.trans k⟩
theorem own_callVW {W : Nat} {rm : Room} {as' : Array Value} {Q : Option Value → Heap → List Loc → Prop} {h : Heap} {c' s' : Nat} (X : Stand p l e R (s.setVm vm0) m args below meth c T locs cells slots) (hx : p.tables.exec = Jvm.exec) {own : String} {index : Nat} {C : String} {y z : MethodName} (hown : (s.setVm vm0).vm.findClass own = some m.cls) (hlink : (Jvm.Cond.methodLink own index y).before args (s.setVm vm0) = true) (hdecl : (Jvm.Cond.declares y).before args (s.setVm vm0) = true) (hnf : NotFace (s.setVm vm0) y) (hsel : (Jvm.Cond.selects C y z).before args (s.setVm vm0) = true) (hinst : (Jvm.Cond.instanceMethod z).before args (s.setVm vm0) = true) (hy : y.cls ≠ "java/lang/invoke/MethodHandle" ∧ y.cls ≠ "java/lang/invoke/VarHandle") (hK : BackS l R p e below (s.setVm vm0) args z 3 W (fun A a => a = as' ∧ A.U.heap = h ∧ A.cells + rm.cells ≤ R.cells ∧ A.slots + rm.slots ≤ R.slots) (fun A _ v B => ∃ L, Q v B.U.heap L ∧ B.locs = A.locs ++ L ∧ B.cells = A.cells + rm.cells ∧ B.slots = A.slots + rm.slots ∧ CHr Z EL vm0 h B.U.vm B.U.heap)) {b : Addr} {cB : ClassId} (hcB : (s.setVm vm0).vm.findClass C = some cB) (hrecv : IsOf cB T b) {g : JFrame} (hg : g.method = m) (hsize : g.locals.size = c.maxLocals) {argsL rest : List Value} (hlen : ∀ sig, parseMethodDescriptor y.desc = some sig → argsL.length = sig.parameters.length) (hstack : g.stack = argsL.reverse ++ .ref b :: rest) (hW : 2 * g.monitorRoom + (rest.map fun v => v.category).sum ≤ W) (hdg : decode c.code g.pc = .ok (.invokevirtual index, 3)) (ha : (.ref b :: argsL).toArray = as') (eT : T.heap = h) (hc : cells + rm.cells ≤ R.cells) (hs' : slots + rm.slots ≤ R.slots) (h1 : cells + rm.cells = c') (h2 : slots + rm.slots = s') (hS : s.Since vm0 k0) (hk : k0 ≤ h.size) :
    ∃ (v : Option Value) (T' : State) (L : List Loc), Stand p l e R (s.setVm T'.vm) m args below meth c T' (locs ++ L) c' s' ∧ s.Since T'.vm T'.heap.size ∧ Q v T'.heap L ∧ CHr Z EL vm0 h T'.vm T'.heap ∧ ∀ t, Steps p.tables e below (T'.setTop { g with pc := g.pc + 3, stack := v.toList ++ rest }) t → Steps p.tables e below (T.setTop g) t := by
  subst h1 h2
  obtain ⟨v, vm₁, ⟨T', L', k', n'⟩, -, X', hS2, hgr, ⟨L, hQ, h3, h4, h5, ch⟩, st⟩ := X.virtualBackS hx hown hlink hdecl hnf hsel hinst hy hK hcB hrecv hg hsize (Steps.refl _) hlen hstack hW hdg (fun _ _ => ⟨ha, eT, hc, hs'⟩)
  dsimp only [Pt.U, Pt.locs, Pt.cells, Pt.slots] at X' hS2 hgr h3 h4 h5 st hQ ch
  subst h3 h4 h5
  exact ⟨v, T', L, X', hS.trans hS2 (Nat.le_trans (eT ▸ hk) hgr), hQ, ch, fun t k => st.trans k⟩
end OwnW
abbrev own_m0 : MethodName := ⟨"java/lang/String", "<init>", "([CIILjava/lang/Void;)V"⟩
abbrev own_m1 : MethodName := ⟨"java/lang/String", "<init>", "([C)V"⟩
abbrev own_m2 : MethodName := ⟨"java/lang/StringUTF16", "compress", "([CI[BII)I"⟩
abbrev own_m3 : MethodName := ⟨"java/lang/StringUTF16", "compress", "([CII)[B"⟩
abbrev own_m4 : MethodName := ⟨"java/lang/StringUTF16", "coderFromArrayLen", "([BI)B"⟩
abbrev own_m5 : MethodName := ⟨"java/lang/String", "charAt", "(I)C"⟩
abbrev own_m6 : MethodName := ⟨"com/example/vouchsafe/vouchsafe/DigestsReadHexPinLaw", "draw", "(I)C"⟩
abbrev own_m7 : MethodName := ⟨"com/example/vouchsafe/vouchsafe/DigestsReadHexPinLaw", "val", "(C)I"⟩
abbrev own_m8 : MethodName := ⟨"com/example/vouchsafe/vouchsafe/Digests", "hexValue", "(C)I"⟩
abbrev own_m9 : MethodName := ⟨"com/example/vouchsafe/vouchsafe/DigestsReadHexPinLaw", "text", "(ICCCC)Ljava/lang/String;"⟩
abbrev own_m10 : MethodName := ⟨"java/lang/String", "length", "()I"⟩
abbrev own_m11 : MethodName := ⟨"com/example/vouchsafe/vouchsafe/Digests", "readHex", "(Ljava/lang/String;I)[B"⟩
theorem own_wS {Z : State} {a0 : Array Value} (hw : ∀ d ∈ tables_1, d.before a0 Z = true) : ∀ a ∈ Bundle.stringAtoms, a.before a0 Z = true := by
  intro d hd
  simp only [Bundle.stringAtoms, Bundle.sN, List.mem_cons, List.not_mem_nil, or_false] at hd
  rcases hd with rfl | rfl | rfl | rfl | rfl | rfl | rfl
  · exact (hw _ (List.mem_of_getElem? (i := 9) rfl))
  · exact (hw _ (List.mem_of_getElem? (i := 8) rfl))
  · exact (hw _ (List.mem_of_getElem? (i := 22) rfl))
  · exact (hw _ (List.mem_of_getElem? (i := 23) rfl))
  · exact (hw _ (List.mem_of_getElem? (i := 24) rfl))
  · exact (hw _ (List.mem_of_getElem? (i := 25) rfl))
  · exact (hw _ (List.mem_of_getElem? (i := 26) rfl))
theorem own_EW {Z : State} {a0 : Array Value} (hw : ∀ d ∈ tables_1, d.before a0 Z = true) : EW Z a0 consts_1 := (EW.cons (hw _ (List.mem_of_getElem? (i := 57) rfl)) (by decide) (EW.cons (hw _ (List.mem_of_getElem? (i := 21) rfl)) (by decide) EW.nil))
theorem own_up (cs : List Int32) (h : ∀ c ∈ cs, ¬ c < 0 ∧ ¬ (255 : Int32) < c) : ∀ c ∈ cs, ¬ c < 0 ∧ ¬ (65535 : Int32) < c := fun c hc => ⟨(h c hc).1, fun q => (h c hc).2 (by rw [Int32.lt_iff_toInt_lt] at q ⊢; have e1 : (65535 : Int32).toInt = 65535 := rfl; have e2 : (255 : Int32).toInt = 255 := rfl; omega)⟩
theorem own_wLen {Z : State} {a0 : Array Value} (hw : ∀ d ∈ tables_1, d.before a0 Z = true) : ∀ d ∈ StrChars.Road.wordsLen, d.before a0 Z = true := fun d hd => hw d ((by decide +kernel : ∀ d ∈ StrChars.Road.wordsLen, d ∈ tables_1) d hd)
theorem own_wCh {Z : State} {a0 : Array Value} (hw : ∀ d ∈ tables_1, d.before a0 Z = true) : ∀ d ∈ StrChars.Road.wordsChN, d.before a0 Z = true := fun d hd => hw d ((by decide +kernel : ∀ d ∈ StrChars.Road.wordsChN, d ∈ tables_1) d hd)
theorem d4_0 : decode jdk_42_method_149_code 0 = .ok (.aload_n 0, 1) := by decide +kernel
theorem d4_1 : decode jdk_42_method_149_code 1 = .ok (.invokespecial 1, 3) := by decide +kernel
theorem d4_4 : decode jdk_42_method_149_code 4 = .ok (.iload_n 3, 1) := by decide +kernel
theorem d4_5 : decode jdk_42_method_149_code 5 = .ok (.ifCond .ne 22, 3) := by decide +kernel
theorem d4_8 : decode jdk_42_method_149_code 8 = .ok (.aload_n 0, 1) := by decide +kernel
theorem d4_9 : decode jdk_42_method_149_code 9 = .ok (.ldc 7, 2) := by decide +kernel
theorem d4_11 : decode jdk_42_method_149_code 11 = .ok (.getfield 9, 3) := by decide +kernel
theorem d4_14 : decode jdk_42_method_149_code 14 = .ok (.putfield 9, 3) := by decide +kernel
theorem d4_17 : decode jdk_42_method_149_code 17 = .ok (.aload_n 0, 1) := by decide +kernel
theorem d4_18 : decode jdk_42_method_149_code 18 = .ok (.ldc 7, 2) := by decide +kernel
theorem d4_20 : decode jdk_42_method_149_code 20 = .ok (.getfield 15, 3) := by decide +kernel
theorem d4_23 : decode jdk_42_method_149_code 23 = .ok (.putfield 15, 3) := by decide +kernel
theorem d4_26 : decode jdk_42_method_149_code 26 = .ok (.return_, 1) := by decide +kernel
theorem pn_0 : plainName "java/lang/String" = true := by first | (simp [plainName, overriddenIn]; done) | decide +kernel
theorem ef_ini4_0 (m : MethodId) (x0 : Addr) (x1 : Addr) (x2 : Int32) (x3 : Int32) : entryFrame m #[(.ref x0), (.ref x1), (.int x2), (.int x3), .null] 6 = mkF m 0 #[rv x0, rv x1, iv x2, iv x3, .val .null, .unset] [] := by first | (simp [entryFrame, mkF, argsToLocals, Value.category]; done) | rfl
def Q_ini4_0 (Z : State) (a : Addr) (va : Addr) (kc : ClassId) (h0 : Heap) (n0 : Nat) (v : Option Value) (h : Heap) (L : List Loc) : Prop := ∃ (t : Addr) (kb : ClassId), (v = none) ∧ (Fr n0 L) ∧ (Keep h0 h [a]) ∧ (Exa Z h a "java/lang/String") ∧ (Fld Z h a "java/lang/String" "coder" "B" (.int (0 : Int32))) ∧ (Fld Z h a "java/lang/String" "value" "[B" (.ref t)) ∧ (Arv Z h t kb .byte (0 : Int32) [] (.int (0 : Int32)))
set_option maxRecDepth 65536 in
set_option maxHeartbeats 40000000 in
theorem rm_ini4_0 (l : Launch) (Z : State) (a0 : Array Value) (hw : ∀ d ∈ tables_1, d.before a0 Z = true) (ws : List Jvm.Cond) (a : Addr) (va : Addr) (kc : ClassId) (h0 : Heap) (n0 : Nat) (O0 : Old Z n0 h0) (EA : Exa Z h0 a "java/lang/String") (FV : Fld Z h0 a "java/lang/String" "value" "[B" .null) (FC : Fld Z h0 a "java/lang/String" "coder" "B" (.int (0 : Int32))) (fa : n0 ≤ a) (VA : Arv Z h0 va kc .char (0 : Int32) [] (.int (0 : Int32))) :
    MetFree l own_m0 (head1 (Jvm.Cond.code own_m0 jdk_42_method_149_code 6 none :: ws) ({ frames := 1, cells := 4, slots := 8, locals := 12 } : Room)) (fun ar_ U => ar_ = #[(.ref a), (.ref va), (.int (0 : Int32)), (.int (0 : Int32)), .null] ∧ Z.Warmed39 U.vm ∧ U.heap = h0 ∧ CHv Z consts_1 U.vm h0 ∧ ∀ x ∈ ([a] : List Addr), Safe Z consts_1 U.vm h0 x) (fun _ _ _ _ _ => True) (fun _ U o U' => ∃ v L, o = .returned v ∧ Q_ini4_0 Z a va kc h0 n0 v U'.heap L ∧ CHr Z consts_1 U.vm U.heap U'.vm U'.heap ∧ ReturnedEndW U o U' L ({ frames := 1, cells := 4, slots := 8, locals := 12 } : Room).cells ({ frames := 1, cells := 4, slots := 8, locals := 12 } : Room).slots) := by
  refine MetFree.of_bodySF (plainFor_of_name pn_0) hisR ?_
  intro p e s m args below meth c s₁ Bd hml0 hP hK
  obtain ⟨rfl, hZ, hh, CH0, SF0⟩ := hP
  have hx := Bd.exec
  have hby := Bd.bytes
  have hml : c.maxLocals = 6 := hml0
  have hown : s.vm.findClass "java/lang/String" = some m.cls := findClass_of_methodNamed Bd.named
  have hnm := (name_of_methodNamed Bd.named Bd.method).1
  have X0 : Stand p l e ({ frames := 1, cells := 4, slots := 8, locals := 12 } : Room) (s.setVm s.vm) m #[(.ref a), (.ref va), (.int (0 : Int32)), (.int (0 : Int32)), .null] below meth c s₁ [] 0 0 := Stand.of_body Bd
  have e0 : s₁.heap = h0 := by rw [← hh, Bd.state]; rfl
  have N0 := Fr.nil n0
  have hret := Bd.returns
  have hlk : meth.locks = false := Bd.notSynchronized
  have hEL := own_EW hw
  have hZs := hZ
  have howns := hown
  have hS0 : s.Since s.vm s.heap.size := (State.WarmedH.refl s).since _
  have hk0 : s.heap.size ≤ h0.size := Nat.le_of_eq (by rw [hh])
  have CR0 := CHr.refl CH0
  have sf_a := SF0 _ (List.mem_of_getElem? (i := 0) rfl)
  refine own_W0 hh ?_
  show own_W p e below s ({ frames := 1, cells := 4, slots := 8, locals := 12 } : Room).cells ({ frames := 1, cells := 4, slots := 8, locals := 12 } : Room).slots Z consts_1 h0 (Q_ini4_0 Z a va kc h0 n0) s₁ (entryFrame m #[(.ref a), (.ref va), (.int (0 : Int32)), (.int (0 : Int32)), .null] 6)
  rw [ef_ini4_0 m a va (0 : Int32) (0 : Int32)]
  refine own_stW (T' := s₁) (g' := (mkF m 1 #[rv a, rv va, iv (0 : Int32), iv (0 : Int32), .val .null, .unset] [(.ref a)])) (fun _ k_ => XS.aloadN X0.here hx rfl (hb hby d4_0) rfl rfl  k_) ?_
  obtain ⟨T1, X1, e1, st1⟩ := initO X0 hx hZ hown (hw _ (List.mem_of_getElem? (i := 18) rfl)) (hw _ (List.mem_of_getElem? (i := 19) rfl)) (hw _ (List.mem_of_getElem? (i := 20) rfl)) e0 (g := (mkF m 1 #[rv a, rv va, iv (0 : Int32), iv (0 : Int32), .val .null, .unset] [(.ref a)])) rfl (by rw [hml]; rfl) rfl (hb hby d4_1) (by decide) (W := 0) (by show 2 * 0 + _ ≤ _; exact Nat.le_of_eq rfl) (by decide)
  refine own_stW (T' := T1) (g' := (mkF m 4 #[rv a, rv va, iv (0 : Int32), iv (0 : Int32), .val .null, .unset] [])) st1 ?_
  clear st1
  refine own_stW (T' := T1) (g' := (mkF m 5 #[rv a, rv va, iv (0 : Int32), iv (0 : Int32), .val .null, .unset] [(.int (0 : Int32))])) (fun _ k_ => XS.iloadN X1.here hx rfl (hb hby d4_4) rfl  k_) ?_
  refine own_stW (T' := T1) (g' := (mkF m 8 #[rv a, rv va, iv (0 : Int32), iv (0 : Int32), .val .null, .unset] [])) (fun _ k_ => XS.ifNo X1.here hx rfl (hb hby d4_5) rfl ((if0 _ _).trans (teq (rfl : (0 : Int32) = (0 : Int32))).2) k_) ?_
  refine own_stW (T' := T1) (g' := (mkF m 9 #[rv a, rv va, iv (0 : Int32), iv (0 : Int32), .val .null, .unset] [(.ref a)])) (fun _ k_ => XS.aloadN X1.here hx rfl (hb hby d4_8) rfl rfl  k_) ?_
  obtain ⟨a2, T2, h2, k2, b2, kb2, X2, e2, E2, hS2, hk2, hZ2, hown2, A2, C2, V2, R2, la2, lb2, ch2, Lt2, nl2, st2⟩ := ldcCH X1 hx hZ hown (hw _ (List.mem_of_getElem? (i := 21) rfl)) (own_wS hw) e1 hS0 hk0 hEL (List.mem_of_getElem? (i := 1) rfl) CR0.1 (vs := []) (z := (0 : Int32)) ⟨by decide, by decide⟩ (by decide) (by decide) (g := (mkF m 9 #[rv a, rv va, iv (0 : Int32), iv (0 : Int32), .val .null, .unset] [(.ref a)])) rfl (hb hby d4_9) (n := 0) (by decide) (by decide) (by decide) (by decide)
  have CR3 : CHr Z consts_1 s.vm h0 T2.vm h2 := CR0.trans ch2
  have sf4 : Safe Z consts_1 T2.vm h2 a := ch2.safe EA.lt sf_a
  refine own_stW (T' := T2) (g' := (mkF m 11 #[rv a, rv va, iv (0 : Int32), iv (0 : Int32), .val .null, .unset] [(.ref a2), (.ref a)])) st2 ?_
  clear st2
  obtain ⟨T5, X5, e5, st5⟩ := getF X2 hx hZ2 hown2 (host := "") (Or.inl (hw _ (List.mem_of_getElem? (i := 27) rfl))) Via.refl e2 V2 (g := (mkF m 11 #[rv a, rv va, iv (0 : Int32), iv (0 : Int32), .val .null, .unset] [(.ref a2), (.ref a)])) rfl rfl (hb hby d4_11)
  refine own_stW (T' := T5) (g' := (mkF m 14 #[rv a, rv va, iv (0 : Int32), iv (0 : Int32), .val .null, .unset] [(.ref b2), (.ref a)])) st5 ?_
  clear st5
  have f6 : Exa Z h2 a "java/lang/String" := EA.ext E2
  have f7 : Fld Z h2 a "java/lang/String" "value" "[B" .null := FV.ext E2
  obtain ⟨T8, h8, X8, e8, W8, st8⟩ := putF X5 hx hZ2 hown2 (host := "") (Or.inl (hw _ (List.mem_of_getElem? (i := 27) rfl))) Via.refl e5 f7 f6 (Or.inr ⟨(hw _ (List.mem_of_getElem? (i := 23) rfl)), rfl, hnm⟩) (hw _ (List.mem_of_getElem? (i := 8) rfl)) (ty := (.array .byte)) (by decide) rfl rfl (g := (mkF m 14 #[rv a, rv va, iv (0 : Int32), iv (0 : Int32), .val .null, .unset] [(.ref b2), (.ref a)])) rfl rfl (hb hby d4_14)
  have CR9 : CHr Z consts_1 s.vm h0 T2.vm h8 := CR3.trans (CHr.wr W8 sf4 CR3.1)
  have sf10 : Safe Z consts_1 T2.vm h8 a := Safe.wr W8 sf4 CR3.1 sf4
  have Fw8 : Fld Z h8 a "java/lang/String" "value" "[B" (.ref b2) := Fld.same W8 f7
  have N8 := Fr.snoc X8 N0 fa
  refine own_stW (T' := T8) (g' := (mkF m 17 #[rv a, rv va, iv (0 : Int32), iv (0 : Int32), .val .null, .unset] [])) st8 ?_
  clear st8
  refine own_stW (T' := T8) (g' := (mkF m 18 #[rv a, rv va, iv (0 : Int32), iv (0 : Int32), .val .null, .unset] [(.ref a)])) (fun _ k_ => XS.aloadN X8.here hx rfl (hb hby d4_17) rfl rfl  k_) ?_
  obtain ⟨a11, T11, h11, k11, b11, kb11, X11, e11, E11, hS11, hk11, hZ11, hown11, A11, C11, V11, R11, la11, lb11, ch11, Lt11, nl11, st11⟩ := ldcCH X8 hx hZ2 hown2 (hw _ (List.mem_of_getElem? (i := 21) rfl)) (own_wS hw) e8 hS2 (Nat.le_trans hk2 (Nat.le_of_eq (Wr.size W8).symm)) hEL (List.mem_of_getElem? (i := 1) rfl) CR9.1 (vs := []) (z := (0 : Int32)) ⟨by decide, by decide⟩ (by decide) (by decide) (g := (mkF m 18 #[rv a, rv va, iv (0 : Int32), iv (0 : Int32), .val .null, .unset] [(.ref a)])) rfl (hb hby d4_18) (n := 0) (by decide) (by decide) (by decide) (by decide)
  have CR12 : CHr Z consts_1 s.vm h0 T11.vm h11 := CR9.trans ch11
  have sf13 : Safe Z consts_1 T11.vm h11 a := ch11.safe (Nat.lt_of_lt_of_le (Nat.lt_of_lt_of_le EA.lt E2.1) (Nat.le_of_eq (Wr.size W8).symm)) sf10
  refine own_stW (T' := T11) (g' := (mkF m 20 #[rv a, rv va, iv (0 : Int32), iv (0 : Int32), .val .null, .unset] [(.ref a11), (.ref a)])) st11 ?_
  clear st11
  obtain ⟨T14, X14, e14, st14⟩ := getF X11 hx hZ11 hown11 (host := "") (Or.inl (hw _ (List.mem_of_getElem? (i := 28) rfl))) Via.refl e11 C11 (g := (mkF m 20 #[rv a, rv va, iv (0 : Int32), iv (0 : Int32), .val .null, .unset] [(.ref a11), (.ref a)])) rfl rfl (hb hby d4_20)
  refine own_stW (T' := T14) (g' := (mkF m 23 #[rv a, rv va, iv (0 : Int32), iv (0 : Int32), .val .null, .unset] [(.int (0 : Int32)), (.ref a)])) st14 ?_
  clear st14
  have f15 : Exa Z h8 a "java/lang/String" := f6.wr W8
  have f16 : Exa Z h11 a "java/lang/String" := f15.ext E11
  have f17 : Fld Z h2 a "java/lang/String" "coder" "B" (.int (0 : Int32)) := FC.ext E2
  have f18 : Fld Z h8 a "java/lang/String" "coder" "B" (.int (0 : Int32)) := f17.other W8 (Or.inr (slot_ne (Or.inr (hw _ (List.mem_of_getElem? (i := 24) rfl))) (Or.inr (hw _ (List.mem_of_getElem? (i := 23) rfl))) (by decide) (t := .byte) (t' := (.array .byte)) (by decide) (by decide)))
  have f19 : Fld Z h11 a "java/lang/String" "coder" "B" (.int (0 : Int32)) := f18.ext E11
  obtain ⟨T20, h20, X20, e20, W20, st20⟩ := putFN X14 hx hZ11 hown11 (hw _ (List.mem_of_getElem? (i := 28) rfl)) Via.refl e14 f19 f16 (Or.inr ⟨(hw _ (List.mem_of_getElem? (i := 24) rfl)), rfl, hnm⟩) (hw _ (List.mem_of_getElem? (i := 8) rfl)) (ty := .byte) (v' := (.int (0 : Int32))) (by decide) rfl (by decide) (g := (mkF m 23 #[rv a, rv va, iv (0 : Int32), iv (0 : Int32), .val .null, .unset] [(.int (0 : Int32)), (.ref a)])) rfl rfl (hb hby d4_23)
  have CR21 : CHr Z consts_1 s.vm h0 T11.vm h20 := CR12.trans (CHr.wr W20 sf13 CR12.1)
  have sf22 : Safe Z consts_1 T11.vm h20 a := Safe.wr W20 sf13 CR12.1 sf13
  have Fw20 : Fld Z h20 a "java/lang/String" "coder" "B" (.int (0 : Int32)) := Fld.same W20 f19
  have N20 := Fr.snoc X20 N8 fa
  refine own_stW (T' := T20) (g' := (mkF m 26 #[rv a, rv va, iv (0 : Int32), iv (0 : Int32), .val .null, .unset] [])) st20 ?_
  clear st20
  have f23 : Keep h0 h2 [a] := (Keep.refl h0 [a]).ext E2
  have f24 : Keep h0 h8 [a] := f23.wr W8 (Or.inl (List.mem_of_getElem? (i := 0) rfl))
  have f25 : Keep h0 h11 [a] := f24.ext E11
  have f26 : Keep h0 h20 [a] := f25.wr W20 (Or.inl (List.mem_of_getElem? (i := 0) rfl))
  have f27 : Exa Z h20 a "java/lang/String" := f16.wr W20
  have f28 : Fld Z h11 a "java/lang/String" "value" "[B" (.ref b2) := Fw8.ext E11
  have f29 : Fld Z h20 a "java/lang/String" "value" "[B" (.ref b2) := f28.other W20 (Or.inr (slot_ne (Or.inr (hw _ (List.mem_of_getElem? (i := 23) rfl))) (Or.inr (hw _ (List.mem_of_getElem? (i := 24) rfl))) (by decide) (t := (.array .byte)) (t' := .byte) (by decide) (by decide)))
  have f30 : Arv Z h8 b2 kb2 .byte (0 : Int32) [] (.int (0 : Int32)) := R2.other W8 (Ne.symm (nl2 _ sf4).2)
  have f31 : Arv Z h11 b2 kb2 .byte (0 : Int32) [] (.int (0 : Int32)) := f30.ext E11
  have f32 : Arv Z h20 b2 kb2 .byte (0 : Int32) [] (.int (0 : Int32)) := f31.other W20 (Ne.symm (nl2 _ sf4).2)
  exact own_retVW X20 hZ11 hS11 (by rw [e20]; exact (Nat.le_trans hk11 (Nat.le_of_eq (Wr.size W20).symm))) hEL (by rw [e20]; exact CR21) hx hret hlk (hb hby d4_26) (by decide) (by decide) (by rw [e20]; exact ⟨b2, kb2, rfl, N20, f26, f27, Fw20, f29, f32⟩)
theorem d3_0 : decode jdk_42_method_3_code 0 = .ok (.aload_n 0, 1) := by decide +kernel
theorem d3_1 : decode jdk_42_method_3_code 1 = .ok (.aload_n 1, 1) := by decide +kernel
theorem d3_2 : decode jdk_42_method_3_code 2 = .ok (.iconst 0, 1) := by decide +kernel
theorem d3_3 : decode jdk_42_method_3_code 3 = .ok (.aload_n 1, 1) := by decide +kernel
theorem d3_4 : decode jdk_42_method_3_code 4 = .ok (.arraylength, 1) := by decide +kernel
theorem d3_5 : decode jdk_42_method_3_code 5 = .ok (.aconst_null, 1) := by decide +kernel
theorem d3_6 : decode jdk_42_method_3_code 6 = .ok (.invokespecial 27, 3) := by decide +kernel
theorem d3_9 : decode jdk_42_method_3_code 9 = .ok (.return_, 1) := by decide +kernel
theorem pd___CIILjava_lang_Void__V : parseMethodDescriptor "([CIILjava/lang/Void;)V" = some ⟨[(.array .char), .int, .int, (.object "java/lang/Void")], none⟩ := by decide +kernel
theorem ef_ini1_0 (m : MethodId) (x0 : Addr) (x1 : Addr) : entryFrame m #[(.ref x0), (.ref x1)] 2 = mkF m 0 #[rv x0, rv x1] [] := by first | (simp [entryFrame, mkF, argsToLocals, Value.category]; done) | rfl
def Q_ini1_0 (Z : State) (a : Addr) (va : Addr) (kc : ClassId) (h0 : Heap) (n0 : Nat) (v : Option Value) (h : Heap) (L : List Loc) : Prop := ∃ (t : Addr) (kb : ClassId), (v = none) ∧ (Fr n0 L) ∧ (Keep h0 h [a]) ∧ (Exa Z h a "java/lang/String") ∧ (Fld Z h a "java/lang/String" "coder" "B" (.int (0 : Int32))) ∧ (Fld Z h a "java/lang/String" "value" "[B" (.ref t)) ∧ (Arv Z h t kb .byte (0 : Int32) [] (.int (0 : Int32)))
set_option maxRecDepth 65536 in
set_option maxHeartbeats 40000000 in
theorem rm_ini1_0 (l : Launch) (Z : State) (a0 : Array Value) (hw : ∀ d ∈ tables_1, d.before a0 Z = true) (ws : List Jvm.Cond) (a : Addr) (va : Addr) (kc : ClassId) (h0 : Heap) (n0 : Nat) (O0 : Old Z n0 h0) (EA : Exa Z h0 a "java/lang/String") (FV : Fld Z h0 a "java/lang/String" "value" "[B" .null) (FC : Fld Z h0 a "java/lang/String" "coder" "B" (.int (0 : Int32))) (fa : n0 ≤ a) (VA : Arv Z h0 va kc .char (0 : Int32) [] (.int (0 : Int32))) :
    MetFree l own_m1 (head1 (Jvm.Cond.code own_m1 jdk_42_method_3_code 2 none :: ws) ({ frames := 2, cells := 4, slots := 8, locals := 29 } : Room)) (fun ar_ U => ar_ = #[(.ref a), (.ref va)] ∧ Z.Warmed39 U.vm ∧ U.heap = h0 ∧ CHv Z consts_1 U.vm h0 ∧ ∀ x ∈ ([a] : List Addr), Safe Z consts_1 U.vm h0 x) (fun _ _ _ _ _ => True) (fun _ U o U' => ∃ v L, o = .returned v ∧ Q_ini1_0 Z a va kc h0 n0 v U'.heap L ∧ CHr Z consts_1 U.vm U.heap U'.vm U'.heap ∧ ReturnedEndW U o U' L ({ frames := 2, cells := 4, slots := 8, locals := 29 } : Room).cells ({ frames := 2, cells := 4, slots := 8, locals := 29 } : Room).slots) := by
  refine MetFree.of_bodySF (plainFor_of_name pn_0) hisR ?_
  intro p e s m args below meth c s₁ Bd hml0 hP hK
  obtain ⟨rfl, hZ, hh, CH0, SF0⟩ := hP
  have hx := Bd.exec
  have hby := Bd.bytes
  have hml : c.maxLocals = 2 := hml0
  have hown : s.vm.findClass "java/lang/String" = some m.cls := findClass_of_methodNamed Bd.named
  have hnm := (name_of_methodNamed Bd.named Bd.method).1
  have X0 : Stand p l e ({ frames := 2, cells := 4, slots := 8, locals := 29 } : Room) (s.setVm s.vm) m #[(.ref a), (.ref va)] below meth c s₁ [] 0 0 := Stand.of_body Bd
  have e0 : s₁.heap = h0 := by rw [← hh, Bd.state]; rfl
  have N0 := Fr.nil n0
  have hret := Bd.returns
  have hlk : meth.locks = false := Bd.notSynchronized
  have hEL := own_EW hw
  have hZs := hZ
  have howns := hown
  have hS0 : s.Since s.vm s.heap.size := (State.WarmedH.refl s).since _
  have hk0 : s.heap.size ≤ h0.size := Nat.le_of_eq (by rw [hh])
  have CR0 := CHr.refl CH0
  have sf_a := SF0 _ (List.mem_of_getElem? (i := 0) rfl)
  refine own_W0 hh ?_
  show own_W p e below s ({ frames := 2, cells := 4, slots := 8, locals := 29 } : Room).cells ({ frames := 2, cells := 4, slots := 8, locals := 29 } : Room).slots Z consts_1 h0 (Q_ini1_0 Z a va kc h0 n0) s₁ (entryFrame m #[(.ref a), (.ref va)] 2)
  rw [ef_ini1_0 m a va]
  refine own_stW (T' := s₁) (g' := (mkF m 1 #[rv a, rv va] [(.ref a)])) (fun _ k_ => XS.aloadN X0.here hx rfl (hb hby d3_0) rfl rfl  k_) ?_
  refine own_stW (T' := s₁) (g' := (mkF m 2 #[rv a, rv va] [(.ref va), (.ref a)])) (fun _ k_ => XS.aloadN X0.here hx rfl (hb hby d3_1) rfl rfl  k_) ?_
  refine own_stW (T' := s₁) (g' := (mkF m 3 #[rv a, rv va] [(.int (0 : Int32)), (.ref va), (.ref a)])) (fun _ k_ => XS.iconst X0.here hx rfl (hb hby d3_2) k_) ?_
  refine own_stW (T' := s₁) (g' := (mkF m 4 #[rv a, rv va] [(.ref va), (.int (0 : Int32)), (.ref va), (.ref a)])) (fun _ k_ => XS.aloadN X0.here hx rfl (hb hby d3_3) rfl rfl  k_) ?_
  obtain ⟨cl1, Ar1, -, S1, N1, -, -⟩ := id VA
  refine own_stW (T' := s₁) (g' := (mkF m 5 #[rv a, rv va] [(.int (0 : Int32)), (.int (0 : Int32)), (.ref va), (.ref a)])) (fun t_ k_ => X0.arraylength hx (by rw [e0]; exact Ar1.1) (State.isArrayOf_alike hZ.alike Ar1.2.1) (g := (mkF m 4 #[rv a, rv va] [(.ref va), (.int (0 : Int32)), (.ref va), (.ref a)])) rfl rfl (hb hby d3_4) _ (by rw [len_of S1 N1]; exact k_)) ?_
  refine own_stW (T' := s₁) (g' := (mkF m 6 #[rv a, rv va] [.null, (.int (0 : Int32)), (.int (0 : Int32)), (.ref va), (.ref a)])) (fun _ k_ => XS.aconstNull X0.here hx rfl (hb hby d3_5) k_) ?_
  obtain ⟨_, T2, L2, X2, hS2, hQ2, ch2, st2⟩ := own_callIW X0 hx (y := own_m0) rfl hown (mvT hZ (hw _ (List.mem_of_getElem? (i := 14) rfl))) (mvT hZ (hw _ (List.mem_of_getElem? (i := 15) rfl))) (mvT hZ (hw _ (List.mem_of_getElem? (i := 17) rfl))) (by decide) (own_backW (W := 0) (rm_ini4_0 l Z a0 hw [] a va kc h0 n0 O0 EA FV FC fa VA) hZ (hw _ (List.mem_of_getElem? (i := 17) rfl)) (hw _ (List.mem_of_getElem? (i := 9) rfl)) (by decide) (by decide) hEL CR0.1 (sfS sf_a sf0) (allS EA.lt all0)) (g := (mkF m 6 #[rv a, rv va] [.null, (.int (0 : Int32)), (.int (0 : Int32)), (.ref va), (.ref a)])) rfl (by rw [hml]; rfl) (a := a) (argsL := [(.ref va), (.int (0 : Int32)), (.int (0 : Int32)), .null]) (rest := []) (lenOf pd___CIILjava_lang_Void__V rfl) rfl (by show 2 * 0 + _ ≤ _; exact Nat.le_of_eq rfl) (hb hby d3_6) rfl e0 (by decide) (by decide) (c' := 4) (s' := 8) rfl rfl hS0 hk0
  obtain ⟨t2, kb2, rfl, Nq2, K2, fq2_0, fq2_1, fq2_2, fq2_3⟩ := hQ2
  have N2 := Fr.app N0 Nq2
  have CR3 : CHr Z consts_1 s.vm h0 T2.vm T2.heap := CR0.trans ch2
  have sf4 : Safe Z consts_1 T2.vm T2.heap a := ch2.safe EA.lt sf_a
  have hZ2 : Z.Warmed39 (s.setVm T2.vm).vm := own_hZ hZs hS2
  have hown2 : (s.setVm T2.vm).vm.findClass "java/lang/String" = some m.cls := own_hown howns hS2
  refine own_stW (T' := T2) (g' := (mkF m 9 #[rv a, rv va] [])) st2 ?_
  clear st2
  have f5 : Keep h0 T2.heap [a] := (Keep.refl h0 [a]).trans K2 (allS (Or.inl (List.mem_of_getElem? (i := 0) rfl)) all0)
  exact own_retVW X2 hZ2 hS2 (Nat.le_refl _) hEL CR3 hx hret hlk (hb hby d3_9) (by decide) (by decide) ⟨t2, kb2, rfl, N2, f5, fq2_0, fq2_1, fq2_2, fq2_3⟩
theorem d11_0 : decode jdk_52_method_21_code 0 = .ok (.iconst 0, 1) := by decide +kernel
theorem d11_1 : decode jdk_52_method_21_code 1 = .ok (.istore 5, 2) := by decide +kernel
theorem d11_3 : decode jdk_52_method_21_code 3 = .ok (.iload 5, 2) := by decide +kernel
theorem d11_5 : decode jdk_52_method_21_code 5 = .ok (.iload 4, 2) := by decide +kernel
theorem d11_7 : decode jdk_52_method_21_code 7 = .ok (.if_icmp .ge 37, 3) := by decide +kernel
theorem d11_10 : decode jdk_52_method_21_code 10 = .ok (.aload_n 0, 1) := by decide +kernel
theorem d11_11 : decode jdk_52_method_21_code 11 = .ok (.iload_n 1, 1) := by decide +kernel
theorem d11_12 : decode jdk_52_method_21_code 12 = .ok (.caload, 1) := by decide +kernel
theorem d11_13 : decode jdk_52_method_21_code 13 = .ok (.istore 6, 2) := by decide +kernel
theorem d11_15 : decode jdk_52_method_21_code 15 = .ok (.iload 6, 2) := by decide +kernel
theorem d11_17 : decode jdk_52_method_21_code 17 = .ok (.sipush 255, 3) := by decide +kernel
theorem d11_20 : decode jdk_52_method_21_code 20 = .ok (.if_icmp .le 6, 3) := by decide +kernel
theorem d11_26 : decode jdk_52_method_21_code 26 = .ok (.aload_n 2, 1) := by decide +kernel
theorem d11_27 : decode jdk_52_method_21_code 27 = .ok (.iload_n 3, 1) := by decide +kernel
theorem d11_28 : decode jdk_52_method_21_code 28 = .ok (.iload 6, 2) := by decide +kernel
theorem d11_30 : decode jdk_52_method_21_code 30 = .ok (.i2b, 1) := by decide +kernel
theorem d11_31 : decode jdk_52_method_21_code 31 = .ok (.bastore, 1) := by decide +kernel
theorem d11_32 : decode jdk_52_method_21_code 32 = .ok (.iinc 1 1, 3) := by decide +kernel
theorem d11_35 : decode jdk_52_method_21_code 35 = .ok (.iinc 3 1, 3) := by decide +kernel
theorem d11_38 : decode jdk_52_method_21_code 38 = .ok (.iinc 5 1, 3) := by decide +kernel
theorem d11_41 : decode jdk_52_method_21_code 41 = .ok (.goto (-38), 3) := by decide +kernel
theorem d11_44 : decode jdk_52_method_21_code 44 = .ok (.iload 4, 2) := by decide +kernel
theorem d11_46 : decode jdk_52_method_21_code 46 = .ok (.ireturn, 1) := by decide +kernel
theorem pn_1 : plainName "java/lang/StringUTF16" = true := by first | (simp [plainName, overriddenIn]; done) | decide +kernel
theorem ef_cmp5_1 (m : MethodId) (x0 : Addr) (x1 : Int32) (x2 : Addr) (x3 : Int32) (x4 : Int32) : entryFrame m #[(.ref x0), (.int x1), (.ref x2), (.int x3), (.int x4)] 7 = mkF m 0 #[rv x0, iv x1, rv x2, iv x3, iv x4, .unset, .unset] [] := by first | (simp [entryFrame, mkF, argsToLocals, Value.category]; done) | rfl
def Q_cmp5_1 (Z : State) (va : Addr) (da : Addr) (kc : ClassId) (kd : ClassId) (c0 : Int32) (h0 : Heap) (n0 : Nat) (v : Option Value) (h : Heap) (L : List Loc) : Prop := (v = some (.int (1 : Int32))) ∧ (Fr n0 L) ∧ (Keep h0 h [da]) ∧ (Arv Z h da kd .byte (1 : Int32) [(.int (c0.toInt8.toInt32))] (.int (0 : Int32)))
set_option maxRecDepth 65536 in
set_option maxHeartbeats 40000000 in
theorem rm_cmp5_1 (l : Launch) (Z : State) (a0 : Array Value) (hw : ∀ d ∈ tables_1, d.before a0 Z = true) (ws : List Jvm.Cond) (va : Addr) (da : Addr) (kc : ClassId) (kd : ClassId) (c0 : Int32) (h0 : Heap) (n0 : Nat) (O0 : Old Z n0 h0) (VA : Arv Z h0 va kc .char (1 : Int32) [(.int c0)] (.int (0 : Int32))) (VD : Arv Z h0 da kd .byte (1 : Int32) [(.int (0 : Int32))] (.int (0 : Int32))) (nad : va ≠ da) (fda : n0 ≤ da) (hp0 : ¬ (255 : Int32) < c0) :
    MetFree l own_m2 (head1 (Jvm.Cond.code own_m2 jdk_52_method_21_code 7 (some .int) :: ws) ({ frames := 0, cells := 0, slots := 0, locals := 0 } : Room)) (fun ar_ U => ar_ = #[(.ref va), (.int (0 : Int32)), (.ref da), (.int (0 : Int32)), (.int (1 : Int32))] ∧ Z.Warmed39 U.vm ∧ U.heap = h0) (fun _ _ _ _ _ => True) (fun _ U o U' => ∃ v L, o = .returned v ∧ Q_cmp5_1 Z va da kc kd c0 h0 n0 v U'.heap L ∧ FrameEnd U o U' L ({ frames := 0, cells := 0, slots := 0, locals := 0 } : Room).cells ({ frames := 0, cells := 0, slots := 0, locals := 0 } : Room).slots) := by
  refine MetFree.of_bodySF (plainFor_of_name pn_1) hisR ?_
  intro p e s m args below meth c s₁ Bd hml0 hP hK
  obtain ⟨rfl, hZ, hh⟩ := hP
  have hx := Bd.exec
  have hby := Bd.bytes
  have hml : c.maxLocals = 7 := hml0
  have hown : s.vm.findClass "java/lang/StringUTF16" = some m.cls := findClass_of_methodNamed Bd.named
  have hnm := (name_of_methodNamed Bd.named Bd.method).1
  have X0 : Stand p l e ({ frames := 0, cells := 0, slots := 0, locals := 0 } : Room) s m #[(.ref va), (.int (0 : Int32)), (.ref da), (.int (0 : Int32)), (.int (1 : Int32))] below meth c s₁ [] 0 0 := Stand.of_body Bd
  have e0 : s₁.heap = h0 := by rw [← hh, Bd.state]; rfl
  have N0 := Fr.nil n0
  have hret := Bd.returns
  have hlk : meth.locks = false := Bd.notSynchronized
  show own_E p e below s ({ frames := 0, cells := 0, slots := 0, locals := 0 } : Room).cells ({ frames := 0, cells := 0, slots := 0, locals := 0 } : Room).slots (Q_cmp5_1 Z va da kc kd c0 h0 n0) s₁ (entryFrame m #[(.ref va), (.int (0 : Int32)), (.ref da), (.int (0 : Int32)), (.int (1 : Int32))] 7)
  rw [ef_cmp5_1 m va (0 : Int32) da (0 : Int32) (1 : Int32)]
  refine own_st (T' := s₁) (g' := (mkF m 1 #[rv va, iv (0 : Int32), rv da, iv (0 : Int32), iv (1 : Int32), .unset, .unset] [(.int (0 : Int32))])) (fun _ k_ => XS.iconst X0.here hx rfl (hb hby d11_0) k_) ?_
  refine own_st (T' := s₁) (g' := (mkF m 3 #[rv va, iv (0 : Int32), rv da, iv (0 : Int32), iv (1 : Int32), iv (0 : Int32), .unset] [])) (fun _ k_ => XS.istore X0.here hx rfl (hb hby d11_1) rfl (l' := #[rv va, iv (0 : Int32), rv da, iv (0 : Int32), iv (1 : Int32), iv (0 : Int32), .unset]) rfl k_) ?_
  refine own_st (T' := s₁) (g' := (mkF m 5 #[rv va, iv (0 : Int32), rv da, iv (0 : Int32), iv (1 : Int32), iv (0 : Int32), .unset] [(.int (0 : Int32))])) (fun _ k_ => XS.iload X0.here hx rfl (hb hby d11_3) rfl  k_) ?_
  refine own_st (T' := s₁) (g' := (mkF m 7 #[rv va, iv (0 : Int32), rv da, iv (0 : Int32), iv (1 : Int32), iv (0 : Int32), .unset] [(.int (1 : Int32)), (.int (0 : Int32))])) (fun _ k_ => XS.iload X0.here hx rfl (hb hby d11_5) rfl  k_) ?_
  refine own_st (T' := s₁) (g' := (mkF m 10 #[rv va, iv (0 : Int32), rv da, iv (0 : Int32), iv (1 : Int32), iv (0 : Int32), .unset] [])) (fun _ k_ => XS.icmpNo X0.here hx rfl (hb hby d11_7) rfl (tlt (by decide : (0 : Int32) < (1 : Int32))).2.1 k_) ?_
  refine own_st (T' := s₁) (g' := (mkF m 11 #[rv va, iv (0 : Int32), rv da, iv (0 : Int32), iv (1 : Int32), iv (0 : Int32), .unset] [(.ref va)])) (fun _ k_ => XS.aloadN X0.here hx rfl (hb hby d11_10) rfl rfl  k_) ?_
  refine own_st (T' := s₁) (g' := (mkF m 12 #[rv va, iv (0 : Int32), rv da, iv (0 : Int32), iv (1 : Int32), iv (0 : Int32), .unset] [(.int (0 : Int32)), (.ref va)])) (fun _ k_ => XS.iloadN X0.here hx rfl (hb hby d11_11) rfl  k_) ?_
  obtain ⟨cl1, Ar1, q1, S1, N1, H1, G1⟩ := id VA
  have hin1 : ¬ ((0 : Int32) < 0 ∨ cl1.slots.size ≤ ((0 : Int32)).toNatClampNeg) := inb_of S1 ⟨by decide, by decide⟩
  refine own_st (T' := s₁) (g' := (mkF m 13 #[rv va, iv (0 : Int32), rv da, iv (0 : Int32), iv (1 : Int32), iv (0 : Int32), .unset] [(.int c0)])) (X0.caload hx (j := (0 : Int32)) (v := (.int c0)) (by rw [e0]; exact Ar1.1) (State.isArrayOf_alike hZ.alike Ar1.2.1) Ar1.2.2 hin1 (H1.at hin1 rfl) (g := (mkF m 12 #[rv va, iv (0 : Int32), rv da, iv (0 : Int32), iv (1 : Int32), iv (0 : Int32), .unset] [(.int (0 : Int32)), (.ref va)])) rfl rfl (hb hby d11_12)) ?_
  clear hin1 G1 H1 N1 S1 q1 Ar1 cl1
  refine own_st (T' := s₁) (g' := (mkF m 15 #[rv va, iv (0 : Int32), rv da, iv (0 : Int32), iv (1 : Int32), iv (0 : Int32), iv c0] [])) (fun _ k_ => XS.istore X0.here hx rfl (hb hby d11_13) rfl (l' := #[rv va, iv (0 : Int32), rv da, iv (0 : Int32), iv (1 : Int32), iv (0 : Int32), iv c0]) rfl k_) ?_
  refine own_st (T' := s₁) (g' := (mkF m 17 #[rv va, iv (0 : Int32), rv da, iv (0 : Int32), iv (1 : Int32), iv (0 : Int32), iv c0] [(.int c0)])) (fun _ k_ => XS.iload X0.here hx rfl (hb hby d11_15) rfl  k_) ?_
  refine own_st (T' := s₁) (g' := (mkF m 20 #[rv va, iv (0 : Int32), rv da, iv (0 : Int32), iv (1 : Int32), iv (0 : Int32), iv c0] [(.int (255 : Int32)), (.int c0)])) (fun _ k_ => XS.sipush X0.here hx rfl (hb hby d11_17) k_) ?_
  refine own_st (T' := s₁) (g' := (mkF m 26 #[rv va, iv (0 : Int32), rv da, iv (0 : Int32), iv (1 : Int32), iv (0 : Int32), iv c0] [])) (fun _ k_ => XS.icmpYes X0.here hx rfl (pc0 := 20) (pc' := 26) rfl (hb hby d11_20) rfl (flt (hp0 : ¬ ((255 : Int32) < c0))).2.2.2 (by decide) (by decide) k_) ?_
  refine own_st (T' := s₁) (g' := (mkF m 27 #[rv va, iv (0 : Int32), rv da, iv (0 : Int32), iv (1 : Int32), iv (0 : Int32), iv c0] [(.ref da)])) (fun _ k_ => XS.aloadN X0.here hx rfl (hb hby d11_26) rfl rfl  k_) ?_
  refine own_st (T' := s₁) (g' := (mkF m 28 #[rv va, iv (0 : Int32), rv da, iv (0 : Int32), iv (1 : Int32), iv (0 : Int32), iv c0] [(.int (0 : Int32)), (.ref da)])) (fun _ k_ => XS.iloadN X0.here hx rfl (hb hby d11_27) rfl  k_) ?_
  refine own_st (T' := s₁) (g' := (mkF m 30 #[rv va, iv (0 : Int32), rv da, iv (0 : Int32), iv (1 : Int32), iv (0 : Int32), iv c0] [(.int c0), (.int (0 : Int32)), (.ref da)])) (fun _ k_ => XS.iload X0.here hx rfl (hb hby d11_28) rfl  k_) ?_
  refine own_st (T' := s₁) (g' := (mkF m 31 #[rv va, iv (0 : Int32), rv da, iv (0 : Int32), iv (1 : Int32), iv (0 : Int32), iv c0] [(.int (c0.toInt8.toInt32)), (.int (0 : Int32)), (.ref da)])) (fun _ k_ => XS.i2b X0.here hx rfl (hb hby d11_30) rfl k_) ?_
  obtain ⟨cl2, Ar2, q2, S2, N2, H2, G2⟩ := id VD
  have hin2 : ¬ ((0 : Int32) < 0 ∨ cl2.slots.size ≤ ((0 : Int32)).toNatClampNeg) := inb_of S2 ⟨by decide, by decide⟩
  obtain ⟨T3, h3, X3, e3, W3, st3⟩ := stB X0 hx hZ e0 Ar2 (j := (0 : Int32)) hin2 (g := (mkF m 31 #[rv va, iv (0 : Int32), rv da, iv (0 : Int32), iv (1 : Int32), iv (0 : Int32), iv c0] [(.int (c0.toInt8.toInt32)), (.int (0 : Int32)), (.ref da)])) rfl rfl (hb hby d11_31)
  have V3 : Arv Z h3 da kd .byte (1 : Int32) [(.int (nar .byte (c0.toInt8.toInt32)))] (.int (0 : Int32)) := Arv.set Ar2 q2 S2 N2 H2 G2 (fits_nar_byte _) W3 0 rfl (Nat.le_of_ble_eq_true rfl)
  have Vn3 : Arv Z h3 da kd .byte (1 : Int32) [(.int (c0.toInt8.toInt32))] (.int (0 : Int32)) := by simpa only [own_bb] using V3
  have Nx3 := Fr.snoc X3 N0 fda
  refine own_st (T' := T3) (g' := (mkF m 32 #[rv va, iv (0 : Int32), rv da, iv (0 : Int32), iv (1 : Int32), iv (0 : Int32), iv c0] [])) st3 ?_
  clear hin2 G2 H2 N2 S2 q2 Ar2 cl2 st3
  refine own_st (T' := T3) (g' := (mkF m 35 #[rv va, iv (1 : Int32), rv da, iv (0 : Int32), iv (1 : Int32), iv (0 : Int32), iv c0] [])) (fun _ k_ => XS.iinc X3.here hx rfl (hb hby d11_32) rfl (l' := #[rv va, iv (1 : Int32), rv da, iv (0 : Int32), iv (1 : Int32), iv (0 : Int32), iv c0]) rfl k_) ?_
  refine own_st (T' := T3) (g' := (mkF m 38 #[rv va, iv (1 : Int32), rv da, iv (1 : Int32), iv (1 : Int32), iv (0 : Int32), iv c0] [])) (fun _ k_ => XS.iinc X3.here hx rfl (hb hby d11_35) rfl (l' := #[rv va, iv (1 : Int32), rv da, iv (1 : Int32), iv (1 : Int32), iv (0 : Int32), iv c0]) rfl k_) ?_
  refine own_st (T' := T3) (g' := (mkF m 41 #[rv va, iv (1 : Int32), rv da, iv (1 : Int32), iv (1 : Int32), iv (1 : Int32), iv c0] [])) (fun _ k_ => XS.iinc X3.here hx rfl (hb hby d11_38) rfl (l' := #[rv va, iv (1 : Int32), rv da, iv (1 : Int32), iv (1 : Int32), iv (1 : Int32), iv c0]) rfl k_) ?_
  refine own_st (T' := T3) (g' := (mkF m 3 #[rv va, iv (1 : Int32), rv da, iv (1 : Int32), iv (1 : Int32), iv (1 : Int32), iv c0] [])) (fun _ k_ => XS.goto X3.here hx rfl (pc0 := 41) (pc' := 3) rfl (hb hby d11_41) (by decide) (by decide) k_) ?_
  refine own_st (T' := T3) (g' := (mkF m 5 #[rv va, iv (1 : Int32), rv da, iv (1 : Int32), iv (1 : Int32), iv (1 : Int32), iv c0] [(.int (1 : Int32))])) (fun _ k_ => XS.iload X3.here hx rfl (hb hby d11_3) rfl  k_) ?_
  refine own_st (T' := T3) (g' := (mkF m 7 #[rv va, iv (1 : Int32), rv da, iv (1 : Int32), iv (1 : Int32), iv (1 : Int32), iv c0] [(.int (1 : Int32)), (.int (1 : Int32))])) (fun _ k_ => XS.iload X3.here hx rfl (hb hby d11_5) rfl  k_) ?_
  refine own_st (T' := T3) (g' := (mkF m 44 #[rv va, iv (1 : Int32), rv da, iv (1 : Int32), iv (1 : Int32), iv (1 : Int32), iv c0] [])) (fun _ k_ => XS.icmpYes X3.here hx rfl (pc0 := 7) (pc' := 44) rfl (hb hby d11_7) rfl (flt (by decide : ¬ ((1 : Int32) < (1 : Int32)))).2.1 (by decide) (by decide) k_) ?_
  refine own_st (T' := T3) (g' := (mkF m 46 #[rv va, iv (1 : Int32), rv da, iv (1 : Int32), iv (1 : Int32), iv (1 : Int32), iv c0] [(.int (1 : Int32))])) (fun _ k_ => XS.iload X3.here hx rfl (hb hby d11_44) rfl  k_) ?_
  have f4 : Keep h0 h3 [da] := (Keep.refl h0 [da]).wr W3 (Or.inl (List.mem_of_getElem? (i := 0) rfl))
  exact own_retI X3 hx hret hlk (hb hby d11_46) (by decide) (by decide) (by rw [e3]; exact ⟨rfl, Nx3, f4, Vn3⟩)
theorem d10_0 : decode jdk_52_method_16_code 0 = .ok (.iload_n 2, 1) := by decide +kernel
theorem d10_1 : decode jdk_52_method_16_code 1 = .ok (.newarray .byte, 2) := by decide +kernel
theorem d10_3 : decode jdk_52_method_16_code 3 = .ok (.astore_n 3, 1) := by decide +kernel
theorem d10_4 : decode jdk_52_method_16_code 4 = .ok (.aload_n 0, 1) := by decide +kernel
theorem d10_5 : decode jdk_52_method_16_code 5 = .ok (.iload_n 1, 1) := by decide +kernel
theorem d10_6 : decode jdk_52_method_16_code 6 = .ok (.aload_n 3, 1) := by decide +kernel
theorem d10_7 : decode jdk_52_method_16_code 7 = .ok (.iconst 0, 1) := by decide +kernel
theorem d10_8 : decode jdk_52_method_16_code 8 = .ok (.iload_n 2, 1) := by decide +kernel
theorem d10_9 : decode jdk_52_method_16_code 9 = .ok (.invokestatic 115, 3) := by decide +kernel
theorem d10_12 : decode jdk_52_method_16_code 12 = .ok (.istore 4, 2) := by decide +kernel
theorem d10_14 : decode jdk_52_method_16_code 14 = .ok (.iload 4, 2) := by decide +kernel
theorem d10_16 : decode jdk_52_method_16_code 16 = .ok (.iload_n 2, 1) := by decide +kernel
theorem d10_17 : decode jdk_52_method_16_code 17 = .ok (.if_icmp .eq 40, 3) := by decide +kernel
theorem d10_57 : decode jdk_52_method_16_code 57 = .ok (.aload_n 3, 1) := by decide +kernel
theorem d10_58 : decode jdk_52_method_16_code 58 = .ok (.areturn, 1) := by decide +kernel
theorem pd___CI_BII_I : parseMethodDescriptor "([CI[BII)I" = some ⟨[(.array .char), .int, (.array .byte), .int, .int], some .int⟩ := by decide +kernel
theorem ef_cmp3_1 (m : MethodId) (x0 : Addr) (x1 : Int32) (x2 : Int32) : entryFrame m #[(.ref x0), (.int x1), (.int x2)] 6 = mkF m 0 #[rv x0, iv x1, iv x2, .unset, .unset, .unset] [] := by first | (simp [entryFrame, mkF, argsToLocals, Value.category]; done) | rfl
def Q_cmp3_1 (Z : State) (va : Addr) (kc : ClassId) (c0 : Int32) (h0 : Heap) (n0 : Nat) (v : Option Value) (h : Heap) (L : List Loc) : Prop := ∃ (t : Addr) (kb : ClassId), (v = some (.ref t)) ∧ (Fr n0 L) ∧ (Keep h0 h []) ∧ (Arv Z h t kb .byte (1 : Int32) [(.int (c0.toInt8.toInt32))] (.int (0 : Int32))) ∧ (h0.size ≤ t)
set_option maxRecDepth 65536 in
set_option maxHeartbeats 40000000 in
theorem rm_cmp3_1 (l : Launch) (Z : State) (a0 : Array Value) (hw : ∀ d ∈ tables_1, d.before a0 Z = true) (ws : List Jvm.Cond) (va : Addr) (kc : ClassId) (c0 : Int32) (h0 : Heap) (n0 : Nat) (O0 : Old Z n0 h0) (VA : Arv Z h0 va kc .char (1 : Int32) [(.int c0)] (.int (0 : Int32))) (hp0 : ¬ (255 : Int32) < c0) :
    MetFree l own_m3 (head1 (Jvm.Cond.code own_m3 jdk_52_method_16_code 6 (some (.array .byte)) :: ws) ({ frames := 1, cells := 1, slots := 1, locals := 18 } : Room)) (fun ar_ U => ar_ = #[(.ref va), (.int (0 : Int32)), (.int (1 : Int32))] ∧ Z.Warmed39 U.vm ∧ U.heap = h0) (fun _ _ _ _ _ => True) (fun _ U o U' => ∃ v L, o = .returned v ∧ Q_cmp3_1 Z va kc c0 h0 n0 v U'.heap L ∧ FrameEnd U o U' L ({ frames := 1, cells := 1, slots := 1, locals := 18 } : Room).cells ({ frames := 1, cells := 1, slots := 1, locals := 18 } : Room).slots) := by
  refine MetFree.of_bodySF (plainFor_of_name pn_1) hisR ?_
  intro p e s m args below meth c s₁ Bd hml0 hP hK
  obtain ⟨rfl, hZ, hh⟩ := hP
  have hx := Bd.exec
  have hby := Bd.bytes
  have hml : c.maxLocals = 6 := hml0
  have hown : s.vm.findClass "java/lang/StringUTF16" = some m.cls := findClass_of_methodNamed Bd.named
  have hnm := (name_of_methodNamed Bd.named Bd.method).1
  have X0 : Stand p l e ({ frames := 1, cells := 1, slots := 1, locals := 18 } : Room) s m #[(.ref va), (.int (0 : Int32)), (.int (1 : Int32))] below meth c s₁ [] 0 0 := Stand.of_body Bd
  have e0 : s₁.heap = h0 := by rw [← hh, Bd.state]; rfl
  have N0 := Fr.nil n0
  have hret := Bd.returns
  have hlk : meth.locks = false := Bd.notSynchronized
  show own_E p e below s ({ frames := 1, cells := 1, slots := 1, locals := 18 } : Room).cells ({ frames := 1, cells := 1, slots := 1, locals := 18 } : Room).slots (Q_cmp3_1 Z va kc c0 h0 n0) s₁ (entryFrame m #[(.ref va), (.int (0 : Int32)), (.int (1 : Int32))] 6)
  rw [ef_cmp3_1 m va (0 : Int32) (1 : Int32)]
  refine own_st (T' := s₁) (g' := (mkF m 1 #[rv va, iv (0 : Int32), iv (1 : Int32), .unset, .unset, .unset] [(.int (1 : Int32))])) (fun _ k_ => XS.iloadN X0.here hx rfl (hb hby d10_0) rfl  k_) ?_
  obtain ⟨T1, h1, k1, X1, e1, E1, A1, st1⟩ := newP X0 hx hZ (hw _ (List.mem_of_getElem? (i := 22) rfl)) e0 (g := (mkF m 1 #[rv va, iv (0 : Int32), iv (1 : Int32), .unset, .unset, .unset] [(.int (1 : Int32))])) rfl (hb hby d10_1) rfl (by decide) (cap := 1) (by decide) (by decide) (by decide) (by decide)
  obtain ⟨b1, g1⟩ : ∃ z, z = h0.size := ⟨_, rfl⟩
  rw [← g1] at A1 st1
  have fr1 : n0 ≤ b1 := Nat.le_trans (own_z O0) (Nat.le_of_eq g1.symm)
  have sz1 : h0.size ≤ b1 := Nat.le_trans (Keep.refl h0 []).1 (Nat.le_of_eq g1.symm)
  have V1 : Arv Z h1 b1 k1 .byte (1 : Int32) [(.int (0 : Int32))] (.int (0 : Int32)) := (Arv.new A1 (by decide)).pad (pad_rep [] (.int (0 : Int32)) 1)
  refine own_st (T' := T1) (g' := (mkF m 3 #[rv va, iv (0 : Int32), iv (1 : Int32), .unset, .unset, .unset] [(.ref b1)])) st1 ?_
  clear st1
  refine own_st (T' := T1) (g' := (mkF m 4 #[rv va, iv (0 : Int32), iv (1 : Int32), rv b1, .unset, .unset] [])) (fun _ k_ => XS.astoreN X1.here hx rfl (hb hby d10_3) rfl rfl (l' := #[rv va, iv (0 : Int32), iv (1 : Int32), rv b1, .unset, .unset]) rfl k_) ?_
  refine own_st (T' := T1) (g' := (mkF m 5 #[rv va, iv (0 : Int32), iv (1 : Int32), rv b1, .unset, .unset] [(.ref va)])) (fun _ k_ => XS.aloadN X1.here hx rfl (hb hby d10_4) rfl rfl  k_) ?_
  refine own_st (T' := T1) (g' := (mkF m 6 #[rv va, iv (0 : Int32), iv (1 : Int32), rv b1, .unset, .unset] [(.int (0 : Int32)), (.ref va)])) (fun _ k_ => XS.iloadN X1.here hx rfl (hb hby d10_5) rfl  k_) ?_
  refine own_st (T' := T1) (g' := (mkF m 7 #[rv va, iv (0 : Int32), iv (1 : Int32), rv b1, .unset, .unset] [(.ref b1), (.int (0 : Int32)), (.ref va)])) (fun _ k_ => XS.aloadN X1.here hx rfl (hb hby d10_6) rfl rfl  k_) ?_
  refine own_st (T' := T1) (g' := (mkF m 8 #[rv va, iv (0 : Int32), iv (1 : Int32), rv b1, .unset, .unset] [(.int (0 : Int32)), (.ref b1), (.int (0 : Int32)), (.ref va)])) (fun _ k_ => XS.iconst X1.here hx rfl (hb hby d10_7) k_) ?_
  refine own_st (T' := T1) (g' := (mkF m 9 #[rv va, iv (0 : Int32), iv (1 : Int32), rv b1, .unset, .unset] [(.int (1 : Int32)), (.int (0 : Int32)), (.ref b1), (.int (0 : Int32)), (.ref va)])) (fun _ k_ => XS.iloadN X1.here hx rfl (hb hby d10_8) rfl  k_) ?_
  have f2 : Arv Z h1 va kc .char (1 : Int32) [(.int c0)] (.int (0 : Int32)) := VA.ext E1
  have ne3 : va ≠ b1 := Nat.ne_of_lt (Nat.lt_of_lt_of_le VA.lt (Nat.le_of_eq g1.symm))
  have f4 : Old Z n0 h1 := O0.ext E1
  obtain ⟨_, T5, L5, X5, hQ5, st5⟩ := own_callS X1 hx (y := own_m2) hown (mvT hZ (hw _ (List.mem_of_getElem? (i := 51) rfl))) (mvT hZ (hw _ (List.mem_of_getElem? (i := 52) rfl))) (mvT hZ (hw _ (List.mem_of_getElem? (i := 49) rfl))) (mvT hZ (hw _ (List.mem_of_getElem? (i := 53) rfl))) (by decide) (backOf (W := 0) (rm_cmp5_1 l Z a0 hw [] va b1 kc k1 c0 h1 n0 f4 f2 V1 ne3 fr1 hp0) hZ (hw _ (List.mem_of_getElem? (i := 53) rfl)) (hw _ (List.mem_of_getElem? (i := 49) rfl)) (by decide) (by decide)) (g := (mkF m 9 #[rv va, iv (0 : Int32), iv (1 : Int32), rv b1, .unset, .unset] [(.int (1 : Int32)), (.int (0 : Int32)), (.ref b1), (.int (0 : Int32)), (.ref va)])) rfl (by rw [hml]; rfl) (argsL := [(.ref va), (.int (0 : Int32)), (.ref b1), (.int (0 : Int32)), (.int (1 : Int32))]) (rest := []) (lenOf pd___CI_BII_I rfl) rfl (by show 2 * 0 + _ ≤ _; exact Nat.le_of_eq rfl) (hb hby d10_9) rfl e1 (by decide) (by decide) (c' := 1) (s' := 1) rfl rfl
  obtain ⟨rfl, Nq5, K5, fq5_0⟩ := hQ5
  have N5 := Fr.app N0 Nq5
  refine own_st (T' := T5) (g' := (mkF m 12 #[rv va, iv (0 : Int32), iv (1 : Int32), rv b1, .unset, .unset] [(.int (1 : Int32))])) st5 ?_
  clear st5
  refine own_st (T' := T5) (g' := (mkF m 14 #[rv va, iv (0 : Int32), iv (1 : Int32), rv b1, iv (1 : Int32), .unset] [])) (fun _ k_ => XS.istore X5.here hx rfl (hb hby d10_12) rfl (l' := #[rv va, iv (0 : Int32), iv (1 : Int32), rv b1, iv (1 : Int32), .unset]) rfl k_) ?_
  refine own_st (T' := T5) (g' := (mkF m 16 #[rv va, iv (0 : Int32), iv (1 : Int32), rv b1, iv (1 : Int32), .unset] [(.int (1 : Int32))])) (fun _ k_ => XS.iload X5.here hx rfl (hb hby d10_14) rfl  k_) ?_
  refine own_st (T' := T5) (g' := (mkF m 17 #[rv va, iv (0 : Int32), iv (1 : Int32), rv b1, iv (1 : Int32), .unset] [(.int (1 : Int32)), (.int (1 : Int32))])) (fun _ k_ => XS.iloadN X5.here hx rfl (hb hby d10_16) rfl  k_) ?_
  refine own_st (T' := T5) (g' := (mkF m 57 #[rv va, iv (0 : Int32), iv (1 : Int32), rv b1, iv (1 : Int32), .unset] [])) (fun _ k_ => XS.icmpYes X5.here hx rfl (pc0 := 17) (pc' := 57) rfl (hb hby d10_17) rfl (teq (rfl : (1 : Int32) = (1 : Int32))).1 (by decide) (by decide) k_) ?_
  refine own_st (T' := T5) (g' := (mkF m 58 #[rv va, iv (0 : Int32), iv (1 : Int32), rv b1, iv (1 : Int32), .unset] [(.ref b1)])) (fun _ k_ => XS.aloadN X5.here hx rfl (hb hby d10_57) rfl rfl  k_) ?_
  have f6 : Keep h0 h1 [] := (Keep.refl h0 []).ext E1
  have f7 : Keep h0 T5.heap [] := f6.trans K5 (allS (Or.inr sz1) all0)
  exact own_retA X5 hx hret rfl rfl hlk (hb hby d10_58) (by decide) (by decide) ⟨b1, k1, rfl, N5, f7, fq5_0, sz1⟩
theorem d12_0 : decode jdk_52_method_15_code 0 = .ok (.iload_n 1, 1) := by decide +kernel
theorem d12_1 : decode jdk_52_method_15_code 1 = .ok (.aload_n 0, 1) := by decide +kernel
theorem d12_2 : decode jdk_52_method_15_code 2 = .ok (.arraylength, 1) := by decide +kernel
theorem d12_3 : decode jdk_52_method_15_code 3 = .ok (.isub, 1) := by decide +kernel
theorem d12_4 : decode jdk_52_method_15_code 4 = .ok (.bipush 31, 2) := by decide +kernel
theorem d12_6 : decode jdk_52_method_15_code 6 = .ok (.iushr, 1) := by decide +kernel
theorem d12_7 : decode jdk_52_method_15_code 7 = .ok (.i2b, 1) := by decide +kernel
theorem d12_8 : decode jdk_52_method_15_code 8 = .ok (.ireturn, 1) := by decide +kernel
theorem ef_cdr_1 (m : MethodId) (x0 : Addr) (x1 : Int32) : entryFrame m #[(.ref x0), (.int x1)] 2 = mkF m 0 #[rv x0, iv x1] [] := by first | (simp [entryFrame, mkF, argsToLocals, Value.category]; done) | rfl
def Q_cdr_1 (Z : State) (t : Addr) (kb : ClassId) (vs : List Value) (h0 : Heap) (n0 : Nat) (v : Option Value) (h : Heap) (L : List Loc) : Prop := (v = some (.int (0 : Int32))) ∧ (Fr n0 L) ∧ (h = h0)
set_option maxRecDepth 65536 in
set_option maxHeartbeats 40000000 in
theorem rm_cdr_1 (l : Launch) (Z : State) (a0 : Array Value) (hw : ∀ d ∈ tables_1, d.before a0 Z = true) (ws : List Jvm.Cond) (t : Addr) (kb : ClassId) (vs : List Value) (h0 : Heap) (n0 : Nat) (O0 : Old Z n0 h0) (VT : Arv Z h0 t kb .byte (1 : Int32) vs (.int (0 : Int32))) :
    MetFree l own_m4 (head1 (Jvm.Cond.code own_m4 jdk_52_method_15_code 2 (some .byte) :: ws) ({ frames := 0, cells := 0, slots := 0, locals := 0 } : Room)) (fun ar_ U => ar_ = #[(.ref t), (.int (1 : Int32))] ∧ Z.Warmed39 U.vm ∧ U.heap = h0) (fun _ _ _ _ _ => True) (fun _ U o U' => ∃ v L, o = .returned v ∧ Q_cdr_1 Z t kb vs h0 n0 v U'.heap L ∧ FrameEnd U o U' L ({ frames := 0, cells := 0, slots := 0, locals := 0 } : Room).cells ({ frames := 0, cells := 0, slots := 0, locals := 0 } : Room).slots) := by
  refine MetFree.of_bodySF (plainFor_of_name pn_1) hisR ?_
  intro p e s m args below meth c s₁ Bd hml0 hP hK
  obtain ⟨rfl, hZ, hh⟩ := hP
  have hx := Bd.exec
  have hby := Bd.bytes
  have hml : c.maxLocals = 2 := hml0
  have hown : s.vm.findClass "java/lang/StringUTF16" = some m.cls := findClass_of_methodNamed Bd.named
  have hnm := (name_of_methodNamed Bd.named Bd.method).1
  have X0 : Stand p l e ({ frames := 0, cells := 0, slots := 0, locals := 0 } : Room) s m #[(.ref t), (.int (1 : Int32))] below meth c s₁ [] 0 0 := Stand.of_body Bd
  have e0 : s₁.heap = h0 := by rw [← hh, Bd.state]; rfl
  have N0 := Fr.nil n0
  have hret := Bd.returns
  have hlk : meth.locks = false := Bd.notSynchronized
  show own_E p e below s ({ frames := 0, cells := 0, slots := 0, locals := 0 } : Room).cells ({ frames := 0, cells := 0, slots := 0, locals := 0 } : Room).slots (Q_cdr_1 Z t kb vs h0 n0) s₁ (entryFrame m #[(.ref t), (.int (1 : Int32))] 2)
  rw [ef_cdr_1 m t (1 : Int32)]
  refine own_st (T' := s₁) (g' := (mkF m 1 #[rv t, iv (1 : Int32)] [(.int (1 : Int32))])) (fun _ k_ => XS.iloadN X0.here hx rfl (hb hby d12_0) rfl  k_) ?_
  refine own_st (T' := s₁) (g' := (mkF m 2 #[rv t, iv (1 : Int32)] [(.ref t), (.int (1 : Int32))])) (fun _ k_ => XS.aloadN X0.here hx rfl (hb hby d12_1) rfl rfl  k_) ?_
  obtain ⟨cl1, Ar1, -, S1, N1, -, -⟩ := id VT
  refine own_st (T' := s₁) (g' := (mkF m 3 #[rv t, iv (1 : Int32)] [(.int (1 : Int32)), (.int (1 : Int32))])) (fun t_ k_ => X0.arraylength hx (by rw [e0]; exact Ar1.1) (State.isArrayOf_alike hZ.alike Ar1.2.1) (g := (mkF m 2 #[rv t, iv (1 : Int32)] [(.ref t), (.int (1 : Int32))])) rfl rfl (hb hby d12_2) _ (by rw [len_of S1 N1]; exact k_)) ?_
  refine own_st (T' := s₁) (g' := (mkF m 4 #[rv t, iv (1 : Int32)] [(.int (0 : Int32))])) (fun _ k_ => XS.isub X0.here hx rfl (hb hby d12_3) rfl k_) ?_
  refine own_st (T' := s₁) (g' := (mkF m 6 #[rv t, iv (1 : Int32)] [(.int (31 : Int32)), (.int (0 : Int32))])) (fun _ k_ => XS.bipush X0.here hx rfl (hb hby d12_4) k_) ?_
  refine own_st (T' := s₁) (g' := (mkF m 7 #[rv t, iv (1 : Int32)] [(.int (((0 : Int32).toUInt32 >>> ((31 : Int32) &&& 31).toUInt32).toInt32))])) (fun _ k_ => XS.iushr X0.here hx rfl (hb hby d12_6) rfl k_) ?_
  refine own_st (T' := s₁) (g' := (mkF m 8 #[rv t, iv (1 : Int32)] [(.int ((((0 : Int32).toUInt32 >>> ((31 : Int32) &&& 31).toUInt32).toInt32).toInt8.toInt32))])) (fun _ k_ => XS.i2b X0.here hx rfl (hb hby d12_7) rfl k_) ?_
  exact own_retN X0 hx (t := .byte) hret (by simp) hlk (hb hby d12_8) (by decide) (by decide) ⟨(by decide), N0, e0⟩
theorem d4_27 : decode jdk_42_method_149_code 27 = .ok (.getstatic 38, 3) := by decide +kernel
theorem d4_30 : decode jdk_42_method_149_code 30 = .ok (.ifCond .eq 28, 3) := by decide +kernel
theorem d4_33 : decode jdk_42_method_149_code 33 = .ok (.aload_n 1, 1) := by decide +kernel
theorem d4_34 : decode jdk_42_method_149_code 34 = .ok (.iload_n 2, 1) := by decide +kernel
theorem d4_35 : decode jdk_42_method_149_code 35 = .ok (.iload_n 3, 1) := by decide +kernel
theorem d4_36 : decode jdk_42_method_149_code 36 = .ok (.invokestatic 177, 3) := by decide +kernel
theorem d4_39 : decode jdk_42_method_149_code 39 = .ok (.astore 5, 2) := by decide +kernel
theorem d4_41 : decode jdk_42_method_149_code 41 = .ok (.aload_n 0, 1) := by decide +kernel
theorem d4_42 : decode jdk_42_method_149_code 42 = .ok (.aload 5, 2) := by decide +kernel
theorem d4_44 : decode jdk_42_method_149_code 44 = .ok (.iload_n 3, 1) := by decide +kernel
theorem d4_45 : decode jdk_42_method_149_code 45 = .ok (.invokestatic 47, 3) := by decide +kernel
theorem d4_48 : decode jdk_42_method_149_code 48 = .ok (.putfield 15, 3) := by decide +kernel
theorem d4_51 : decode jdk_42_method_149_code 51 = .ok (.aload_n 0, 1) := by decide +kernel
theorem d4_52 : decode jdk_42_method_149_code 52 = .ok (.aload 5, 2) := by decide +kernel
theorem d4_54 : decode jdk_42_method_149_code 54 = .ok (.putfield 9, 3) := by decide +kernel
theorem d4_57 : decode jdk_42_method_149_code 57 = .ok (.return_, 1) := by decide +kernel
theorem pd___CII__B : parseMethodDescriptor "([CII)[B" = some ⟨[(.array .char), .int, .int], some (.array .byte)⟩ := by decide +kernel
theorem pd___BI_B : parseMethodDescriptor "([BI)B" = some ⟨[(.array .byte), .int], some .byte⟩ := by decide +kernel
theorem ef_ini4_1 (m : MethodId) (x0 : Addr) (x1 : Addr) (x2 : Int32) (x3 : Int32) : entryFrame m #[(.ref x0), (.ref x1), (.int x2), (.int x3), .null] 6 = mkF m 0 #[rv x0, rv x1, iv x2, iv x3, .val .null, .unset] [] := by first | (simp [entryFrame, mkF, argsToLocals, Value.category]; done) | rfl
def Q_ini4_1 (Z : State) (a : Addr) (va : Addr) (kc : ClassId) (cz : Int32) (c0 : Int32) (h0 : Heap) (n0 : Nat) (v : Option Value) (h : Heap) (L : List Loc) : Prop := ∃ (t : Addr) (kb : ClassId), (v = none) ∧ (Fr n0 L) ∧ (Keep h0 h [a]) ∧ (Exa Z h a "java/lang/String") ∧ (Fld Z h a "java/lang/String" "coder" "B" (.int (0 : Int32))) ∧ (Fld Z h a "java/lang/String" "value" "[B" (.ref t)) ∧ (Arv Z h t kb .byte (1 : Int32) [(.int (c0.toInt8.toInt32))] (.int (0 : Int32))) ∧ (h0.size ≤ t)
set_option maxRecDepth 65536 in
set_option maxHeartbeats 40000000 in
theorem rm_ini4_1 (l : Launch) (Z : State) (a0 : Array Value) (hw : ∀ d ∈ tables_1, d.before a0 Z = true) (ws : List Jvm.Cond) (a : Addr) (va : Addr) (kc : ClassId) (cz : Int32) (c0 : Int32) (h0 : Heap) (n0 : Nat) (O0 : Old Z n0 h0) (EA : Exa Z h0 a "java/lang/String") (FV : Fld Z h0 a "java/lang/String" "value" "[B" .null) (FC : Fld Z h0 a "java/lang/String" "coder" "B" (.int (0 : Int32))) (fa : n0 ≤ a) (VA : Arv Z h0 va kc .char (1 : Int32) [(.int c0)] (.int (0 : Int32))) (SC : Sta Z Z.heap "java/lang/String" "COMPACT_STRINGS" "Z" (.int cz)) (hcz : ¬ cz = (0 : Int32)) (hp0 : ¬ (255 : Int32) < c0) :
    MetFree l own_m0 (head1 (Jvm.Cond.code own_m0 jdk_42_method_149_code 6 none :: ws) ({ frames := 2, cells := 1, slots := 1, locals := 35 } : Room)) (fun ar_ U => ar_ = #[(.ref a), (.ref va), (.int (0 : Int32)), (.int (1 : Int32)), .null] ∧ Z.Warmed39 U.vm ∧ U.heap = h0) (fun _ _ _ _ _ => True) (fun _ U o U' => ∃ v L, o = .returned v ∧ Q_ini4_1 Z a va kc cz c0 h0 n0 v U'.heap L ∧ FrameEnd U o U' L ({ frames := 2, cells := 1, slots := 1, locals := 35 } : Room).cells ({ frames := 2, cells := 1, slots := 1, locals := 35 } : Room).slots) := by
  refine MetFree.of_bodySF (plainFor_of_name pn_0) hisR ?_
  intro p e s m args below meth c s₁ Bd hml0 hP hK
  obtain ⟨rfl, hZ, hh⟩ := hP
  have hx := Bd.exec
  have hby := Bd.bytes
  have hml : c.maxLocals = 6 := hml0
  have hown : s.vm.findClass "java/lang/String" = some m.cls := findClass_of_methodNamed Bd.named
  have hnm := (name_of_methodNamed Bd.named Bd.method).1
  have X0 : Stand p l e ({ frames := 2, cells := 1, slots := 1, locals := 35 } : Room) s m #[(.ref a), (.ref va), (.int (0 : Int32)), (.int (1 : Int32)), .null] below meth c s₁ [] 0 0 := Stand.of_body Bd
  have e0 : s₁.heap = h0 := by rw [← hh, Bd.state]; rfl
  have N0 := Fr.nil n0
  have hret := Bd.returns
  have hlk : meth.locks = false := Bd.notSynchronized
  show own_E p e below s ({ frames := 2, cells := 1, slots := 1, locals := 35 } : Room).cells ({ frames := 2, cells := 1, slots := 1, locals := 35 } : Room).slots (Q_ini4_1 Z a va kc cz c0 h0 n0) s₁ (entryFrame m #[(.ref a), (.ref va), (.int (0 : Int32)), (.int (1 : Int32)), .null] 6)
  rw [ef_ini4_1 m a va (0 : Int32) (1 : Int32)]
  refine own_st (T' := s₁) (g' := (mkF m 1 #[rv a, rv va, iv (0 : Int32), iv (1 : Int32), .val .null, .unset] [(.ref a)])) (fun _ k_ => XS.aloadN X0.here hx rfl (hb hby d4_0) rfl rfl  k_) ?_
  obtain ⟨T1, X1, e1, st1⟩ := initO X0 hx hZ hown (hw _ (List.mem_of_getElem? (i := 18) rfl)) (hw _ (List.mem_of_getElem? (i := 19) rfl)) (hw _ (List.mem_of_getElem? (i := 20) rfl)) e0 (g := (mkF m 1 #[rv a, rv va, iv (0 : Int32), iv (1 : Int32), .val .null, .unset] [(.ref a)])) rfl (by rw [hml]; rfl) rfl (hb hby d4_1) (by decide) (W := 0) (by show 2 * 0 + _ ≤ _; exact Nat.le_of_eq rfl) (by decide)
  refine own_st (T' := T1) (g' := (mkF m 4 #[rv a, rv va, iv (0 : Int32), iv (1 : Int32), .val .null, .unset] [])) st1 ?_
  clear st1
  refine own_st (T' := T1) (g' := (mkF m 5 #[rv a, rv va, iv (0 : Int32), iv (1 : Int32), .val .null, .unset] [(.int (1 : Int32))])) (fun _ k_ => XS.iloadN X1.here hx rfl (hb hby d4_4) rfl  k_) ?_
  refine own_st (T' := T1) (g' := (mkF m 27 #[rv a, rv va, iv (0 : Int32), iv (1 : Int32), .val .null, .unset] [])) (fun _ k_ => XS.ifYes X1.here hx rfl (pc0 := 5) (pc' := 27) rfl (hb hby d4_5) rfl ((if0 _ _).trans (feq (by decide : ¬ ((1 : Int32) = (0 : Int32)))).2) (by decide) (by decide) k_) ?_
  obtain ⟨T2, X2, e2, st2⟩ := getS2 X1 hx hZ hown (host := "") (Or.inl (hw _ (List.mem_of_getElem? (i := 43) rfl))) Via.refl e1 (SC.ext O0.2) (g := (mkF m 27 #[rv a, rv va, iv (0 : Int32), iv (1 : Int32), .val .null, .unset] [])) rfl (hb hby d4_27)
  refine own_st (T' := T2) (g' := (mkF m 30 #[rv a, rv va, iv (0 : Int32), iv (1 : Int32), .val .null, .unset] [(.int cz)])) st2 ?_
  clear st2
  refine own_st (T' := T2) (g' := (mkF m 33 #[rv a, rv va, iv (0 : Int32), iv (1 : Int32), .val .null, .unset] [])) (fun _ k_ => XS.ifNo X2.here hx rfl (hb hby d4_30) rfl ((if0 _ _).trans (feq (hcz : ¬ (cz = (0 : Int32)))).1) k_) ?_
  refine own_st (T' := T2) (g' := (mkF m 34 #[rv a, rv va, iv (0 : Int32), iv (1 : Int32), .val .null, .unset] [(.ref va)])) (fun _ k_ => XS.aloadN X2.here hx rfl (hb hby d4_33) rfl rfl  k_) ?_
  refine own_st (T' := T2) (g' := (mkF m 35 #[rv a, rv va, iv (0 : Int32), iv (1 : Int32), .val .null, .unset] [(.int (0 : Int32)), (.ref va)])) (fun _ k_ => XS.iloadN X2.here hx rfl (hb hby d4_34) rfl  k_) ?_
  refine own_st (T' := T2) (g' := (mkF m 36 #[rv a, rv va, iv (0 : Int32), iv (1 : Int32), .val .null, .unset] [(.int (1 : Int32)), (.int (0 : Int32)), (.ref va)])) (fun _ k_ => XS.iloadN X2.here hx rfl (hb hby d4_35) rfl  k_) ?_
  obtain ⟨_, T3, L3, X3, hQ3, st3⟩ := own_callS X2 hx (y := own_m3) hown (mvT hZ (hw _ (List.mem_of_getElem? (i := 47) rfl))) (mvT hZ (hw _ (List.mem_of_getElem? (i := 48) rfl))) (mvT hZ (hw _ (List.mem_of_getElem? (i := 49) rfl))) (mvT hZ (hw _ (List.mem_of_getElem? (i := 50) rfl))) (by decide) (backOf (W := 0) (rm_cmp3_1 l Z a0 hw [] va kc c0 h0 n0 O0 VA hp0) hZ (hw _ (List.mem_of_getElem? (i := 50) rfl)) (hw _ (List.mem_of_getElem? (i := 49) rfl)) (by decide) (by decide)) (g := (mkF m 36 #[rv a, rv va, iv (0 : Int32), iv (1 : Int32), .val .null, .unset] [(.int (1 : Int32)), (.int (0 : Int32)), (.ref va)])) rfl (by rw [hml]; rfl) (argsL := [(.ref va), (.int (0 : Int32)), (.int (1 : Int32))]) (rest := []) (lenOf pd___CII__B rfl) rfl (by show 2 * 0 + _ ≤ _; exact Nat.le_of_eq rfl) (hb hby d4_36) rfl e2 (by decide) (by decide) (c' := 1) (s' := 1) rfl rfl
  obtain ⟨t3, kb3, rfl, Nq3, K3, fq3_0, xq3_fresh_t⟩ := hQ3
  have N3 := Fr.app N0 Nq3
  refine own_st (T' := T3) (g' := (mkF m 39 #[rv a, rv va, iv (0 : Int32), iv (1 : Int32), .val .null, .unset] [(.ref t3)])) st3 ?_
  clear st3
  refine own_st (T' := T3) (g' := (mkF m 41 #[rv a, rv va, iv (0 : Int32), iv (1 : Int32), .val .null, rv t3] [])) (fun _ k_ => XS.astore X3.here hx rfl (hb hby d4_39) rfl rfl (l' := #[rv a, rv va, iv (0 : Int32), iv (1 : Int32), .val .null, rv t3]) rfl k_) ?_
  refine own_st (T' := T3) (g' := (mkF m 42 #[rv a, rv va, iv (0 : Int32), iv (1 : Int32), .val .null, rv t3] [(.ref a)])) (fun _ k_ => XS.aloadN X3.here hx rfl (hb hby d4_41) rfl rfl  k_) ?_
  refine own_st (T' := T3) (g' := (mkF m 44 #[rv a, rv va, iv (0 : Int32), iv (1 : Int32), .val .null, rv t3] [(.ref t3), (.ref a)])) (fun _ k_ => XS.aload X3.here hx rfl (hb hby d4_42) rfl rfl  k_) ?_
  refine own_st (T' := T3) (g' := (mkF m 45 #[rv a, rv va, iv (0 : Int32), iv (1 : Int32), .val .null, rv t3] [(.int (1 : Int32)), (.ref t3), (.ref a)])) (fun _ k_ => XS.iloadN X3.here hx rfl (hb hby d4_44) rfl  k_) ?_
  have f4 : Old Z n0 T3.heap := O0.keep K3 all0
  obtain ⟨_, T5, L5, X5, hQ5, st5⟩ := own_callS X3 hx (y := own_m4) hown (mvT hZ (hw _ (List.mem_of_getElem? (i := 54) rfl))) (mvT hZ (hw _ (List.mem_of_getElem? (i := 55) rfl))) (mvT hZ (hw _ (List.mem_of_getElem? (i := 49) rfl))) (mvT hZ (hw _ (List.mem_of_getElem? (i := 56) rfl))) (by decide) (backOf (W := 1) (rm_cdr_1 l Z a0 hw [] t3 kb3 [(.int (c0.toInt8.toInt32))] T3.heap n0 f4 fq3_0) hZ (hw _ (List.mem_of_getElem? (i := 56) rfl)) (hw _ (List.mem_of_getElem? (i := 49) rfl)) (by decide) (by decide)) (g := (mkF m 45 #[rv a, rv va, iv (0 : Int32), iv (1 : Int32), .val .null, rv t3] [(.int (1 : Int32)), (.ref t3), (.ref a)])) rfl (by rw [hml]; rfl) (argsL := [(.ref t3), (.int (1 : Int32))]) (rest := [(.ref a)]) (lenOf pd___BI_B rfl) rfl (by show 2 * 0 + _ ≤ _; exact Nat.le_of_eq rfl) (hb hby d4_45) rfl rfl (by decide) (by decide) (c' := 1) (s' := 1) rfl rfl
  obtain ⟨rfl, Nq5, eq5⟩ := hQ5
  have N5 := Fr.app N3 Nq5
  refine own_st (T' := T5) (g' := (mkF m 48 #[rv a, rv va, iv (0 : Int32), iv (1 : Int32), .val .null, rv t3] [(.int (0 : Int32)), (.ref a)])) st5 ?_
  clear st5
  have f6 : Exa Z T3.heap a "java/lang/String" := EA.keep K3
  have f7 : Fld Z T3.heap a "java/lang/String" "coder" "B" (.int (0 : Int32)) := FC.keep K3 nin0
  obtain ⟨T8, h8, X8, e8, W8, st8⟩ := putFN X5 hx hZ hown (hw _ (List.mem_of_getElem? (i := 28) rfl)) Via.refl eq5 f7 f6 (Or.inr ⟨(hw _ (List.mem_of_getElem? (i := 24) rfl)), rfl, hnm⟩) (hw _ (List.mem_of_getElem? (i := 8) rfl)) (ty := .byte) (v' := (.int (0 : Int32))) (by decide) rfl (by decide) (g := (mkF m 48 #[rv a, rv va, iv (0 : Int32), iv (1 : Int32), .val .null, rv t3] [(.int (0 : Int32)), (.ref a)])) rfl rfl (hb hby d4_48)
  have Fw8 : Fld Z h8 a "java/lang/String" "coder" "B" (.int (0 : Int32)) := Fld.same W8 f7
  have N8 := Fr.snoc X8 N5 fa
  refine own_st (T' := T8) (g' := (mkF m 51 #[rv a, rv va, iv (0 : Int32), iv (1 : Int32), .val .null, rv t3] [])) st8 ?_
  clear st8
  refine own_st (T' := T8) (g' := (mkF m 52 #[rv a, rv va, iv (0 : Int32), iv (1 : Int32), .val .null, rv t3] [(.ref a)])) (fun _ k_ => XS.aloadN X8.here hx rfl (hb hby d4_51) rfl rfl  k_) ?_
  refine own_st (T' := T8) (g' := (mkF m 54 #[rv a, rv va, iv (0 : Int32), iv (1 : Int32), .val .null, rv t3] [(.ref t3), (.ref a)])) (fun _ k_ => XS.aload X8.here hx rfl (hb hby d4_52) rfl rfl  k_) ?_
  have f9 : Exa Z h8 a "java/lang/String" := f6.wr W8
  have f10 : Fld Z T3.heap a "java/lang/String" "value" "[B" .null := FV.keep K3 nin0
  have f11 : Fld Z h8 a "java/lang/String" "value" "[B" .null := f10.other W8 (Or.inr (slot_ne (Or.inr (hw _ (List.mem_of_getElem? (i := 23) rfl))) (Or.inr (hw _ (List.mem_of_getElem? (i := 24) rfl))) (by decide) (t := (.array .byte)) (t' := .byte) (by decide) (by decide)))
  obtain ⟨T12, h12, X12, e12, W12, st12⟩ := putF X8 hx hZ hown (host := "") (Or.inl (hw _ (List.mem_of_getElem? (i := 27) rfl))) Via.refl e8 f11 f9 (Or.inr ⟨(hw _ (List.mem_of_getElem? (i := 23) rfl)), rfl, hnm⟩) (hw _ (List.mem_of_getElem? (i := 8) rfl)) (ty := (.array .byte)) (by decide) rfl rfl (g := (mkF m 54 #[rv a, rv va, iv (0 : Int32), iv (1 : Int32), .val .null, rv t3] [(.ref t3), (.ref a)])) rfl rfl (hb hby d4_54)
  have Fw12 : Fld Z h12 a "java/lang/String" "value" "[B" (.ref t3) := Fld.same W12 f11
  have N12 := Fr.snoc X12 N8 fa
  refine own_st (T' := T12) (g' := (mkF m 57 #[rv a, rv va, iv (0 : Int32), iv (1 : Int32), .val .null, rv t3] [])) st12 ?_
  clear st12
  have f13 : Keep h0 T3.heap [a] := (Keep.refl h0 [a]).trans K3 all0
  have f14 : Keep h0 h8 [a] := f13.wr W8 (Or.inl (List.mem_of_getElem? (i := 0) rfl))
  have f15 : Keep h0 h12 [a] := f14.wr W12 (Or.inl (List.mem_of_getElem? (i := 0) rfl))
  have f16 : Exa Z h12 a "java/lang/String" := f9.wr W12
  have f17 : Fld Z h12 a "java/lang/String" "coder" "B" (.int (0 : Int32)) := Fw8.other W12 (Or.inr (slot_ne (Or.inr (hw _ (List.mem_of_getElem? (i := 24) rfl))) (Or.inr (hw _ (List.mem_of_getElem? (i := 23) rfl))) (by decide) (t := .byte) (t' := (.array .byte)) (by decide) (by decide)))
  have ne18 : a ≠ t3 := Nat.ne_of_lt (Nat.lt_of_lt_of_le EA.lt xq3_fresh_t)
  have f19 : Arv Z h8 t3 kb3 .byte (1 : Int32) [(.int (c0.toInt8.toInt32))] (.int (0 : Int32)) := fq3_0.other W8 (Ne.symm ne18)
  have f20 : Arv Z h12 t3 kb3 .byte (1 : Int32) [(.int (c0.toInt8.toInt32))] (.int (0 : Int32)) := f19.other W12 (Ne.symm ne18)
  exact own_retV X12 hx hret hlk (hb hby d4_57) (by decide) (by decide) (by rw [e12]; exact ⟨t3, kb3, rfl, N12, f15, f16, f17, Fw12, f20, (Nat.le_trans (Keep.refl h0 [a]).1 xq3_fresh_t)⟩)
theorem ef_ini1_1 (m : MethodId) (x0 : Addr) (x1 : Addr) : entryFrame m #[(.ref x0), (.ref x1)] 2 = mkF m 0 #[rv x0, rv x1] [] := by first | (simp [entryFrame, mkF, argsToLocals, Value.category]; done) | rfl
def Q_ini1_1 (Z : State) (a : Addr) (va : Addr) (kc : ClassId) (cz : Int32) (c0 : Int32) (h0 : Heap) (n0 : Nat) (v : Option Value) (h : Heap) (L : List Loc) : Prop := ∃ (t : Addr) (kb : ClassId), (v = none) ∧ (Fr n0 L) ∧ (Keep h0 h [a]) ∧ (Exa Z h a "java/lang/String") ∧ (Fld Z h a "java/lang/String" "coder" "B" (.int (0 : Int32))) ∧ (Fld Z h a "java/lang/String" "value" "[B" (.ref t)) ∧ (Arv Z h t kb .byte (1 : Int32) [(.int (c0.toInt8.toInt32))] (.int (0 : Int32))) ∧ (h0.size ≤ t)
set_option maxRecDepth 65536 in
set_option maxHeartbeats 40000000 in
theorem rm_ini1_1 (l : Launch) (Z : State) (a0 : Array Value) (hw : ∀ d ∈ tables_1, d.before a0 Z = true) (ws : List Jvm.Cond) (a : Addr) (va : Addr) (kc : ClassId) (cz : Int32) (c0 : Int32) (h0 : Heap) (n0 : Nat) (O0 : Old Z n0 h0) (EA : Exa Z h0 a "java/lang/String") (FV : Fld Z h0 a "java/lang/String" "value" "[B" .null) (FC : Fld Z h0 a "java/lang/String" "coder" "B" (.int (0 : Int32))) (fa : n0 ≤ a) (VA : Arv Z h0 va kc .char (1 : Int32) [(.int c0)] (.int (0 : Int32))) (SC : Sta Z Z.heap "java/lang/String" "COMPACT_STRINGS" "Z" (.int cz)) (hcz : ¬ cz = (0 : Int32)) (hp0 : ¬ (255 : Int32) < c0) :
    MetFree l own_m1 (head1 (Jvm.Cond.code own_m1 jdk_42_method_3_code 2 none :: ws) ({ frames := 3, cells := 1, slots := 1, locals := 52 } : Room)) (fun ar_ U => ar_ = #[(.ref a), (.ref va)] ∧ Z.Warmed39 U.vm ∧ U.heap = h0) (fun _ _ _ _ _ => True) (fun _ U o U' => ∃ v L, o = .returned v ∧ Q_ini1_1 Z a va kc cz c0 h0 n0 v U'.heap L ∧ FrameEnd U o U' L ({ frames := 3, cells := 1, slots := 1, locals := 52 } : Room).cells ({ frames := 3, cells := 1, slots := 1, locals := 52 } : Room).slots) := by
  refine MetFree.of_bodySF (plainFor_of_name pn_0) hisR ?_
  intro p e s m args below meth c s₁ Bd hml0 hP hK
  obtain ⟨rfl, hZ, hh⟩ := hP
  have hx := Bd.exec
  have hby := Bd.bytes
  have hml : c.maxLocals = 2 := hml0
  have hown : s.vm.findClass "java/lang/String" = some m.cls := findClass_of_methodNamed Bd.named
  have hnm := (name_of_methodNamed Bd.named Bd.method).1
  have X0 : Stand p l e ({ frames := 3, cells := 1, slots := 1, locals := 52 } : Room) s m #[(.ref a), (.ref va)] below meth c s₁ [] 0 0 := Stand.of_body Bd
  have e0 : s₁.heap = h0 := by rw [← hh, Bd.state]; rfl
  have N0 := Fr.nil n0
  have hret := Bd.returns
  have hlk : meth.locks = false := Bd.notSynchronized
  show own_E p e below s ({ frames := 3, cells := 1, slots := 1, locals := 52 } : Room).cells ({ frames := 3, cells := 1, slots := 1, locals := 52 } : Room).slots (Q_ini1_1 Z a va kc cz c0 h0 n0) s₁ (entryFrame m #[(.ref a), (.ref va)] 2)
  rw [ef_ini1_1 m a va]
  refine own_st (T' := s₁) (g' := (mkF m 1 #[rv a, rv va] [(.ref a)])) (fun _ k_ => XS.aloadN X0.here hx rfl (hb hby d3_0) rfl rfl  k_) ?_
  refine own_st (T' := s₁) (g' := (mkF m 2 #[rv a, rv va] [(.ref va), (.ref a)])) (fun _ k_ => XS.aloadN X0.here hx rfl (hb hby d3_1) rfl rfl  k_) ?_
  refine own_st (T' := s₁) (g' := (mkF m 3 #[rv a, rv va] [(.int (0 : Int32)), (.ref va), (.ref a)])) (fun _ k_ => XS.iconst X0.here hx rfl (hb hby d3_2) k_) ?_
  refine own_st (T' := s₁) (g' := (mkF m 4 #[rv a, rv va] [(.ref va), (.int (0 : Int32)), (.ref va), (.ref a)])) (fun _ k_ => XS.aloadN X0.here hx rfl (hb hby d3_3) rfl rfl  k_) ?_
  obtain ⟨cl1, Ar1, -, S1, N1, -, -⟩ := id VA
  refine own_st (T' := s₁) (g' := (mkF m 5 #[rv a, rv va] [(.int (1 : Int32)), (.int (0 : Int32)), (.ref va), (.ref a)])) (fun t_ k_ => X0.arraylength hx (by rw [e0]; exact Ar1.1) (State.isArrayOf_alike hZ.alike Ar1.2.1) (g := (mkF m 4 #[rv a, rv va] [(.ref va), (.int (0 : Int32)), (.ref va), (.ref a)])) rfl rfl (hb hby d3_4) _ (by rw [len_of S1 N1]; exact k_)) ?_
  refine own_st (T' := s₁) (g' := (mkF m 6 #[rv a, rv va] [.null, (.int (1 : Int32)), (.int (0 : Int32)), (.ref va), (.ref a)])) (fun _ k_ => XS.aconstNull X0.here hx rfl (hb hby d3_5) k_) ?_
  obtain ⟨_, T2, L2, X2, hQ2, st2⟩ := own_callI X0 hx (y := own_m0) rfl hown (mvT hZ (hw _ (List.mem_of_getElem? (i := 14) rfl))) (mvT hZ (hw _ (List.mem_of_getElem? (i := 15) rfl))) (mvT hZ (hw _ (List.mem_of_getElem? (i := 17) rfl))) (by decide) (backOf (W := 0) (rm_ini4_1 l Z a0 hw [] a va kc cz c0 h0 n0 O0 EA FV FC fa VA SC hcz hp0) hZ (hw _ (List.mem_of_getElem? (i := 17) rfl)) (hw _ (List.mem_of_getElem? (i := 9) rfl)) (by decide) (by decide)) (g := (mkF m 6 #[rv a, rv va] [.null, (.int (1 : Int32)), (.int (0 : Int32)), (.ref va), (.ref a)])) rfl (by rw [hml]; rfl) (a := a) (argsL := [(.ref va), (.int (0 : Int32)), (.int (1 : Int32)), .null]) (rest := []) (lenOf pd___CIILjava_lang_Void__V rfl) rfl (by show 2 * 0 + _ ≤ _; exact Nat.le_of_eq rfl) (hb hby d3_6) rfl e0 (by decide) (by decide) (c' := 1) (s' := 1) rfl rfl
  obtain ⟨t2, kb2, rfl, Nq2, K2, fq2_0, fq2_1, fq2_2, fq2_3, xq2_fresh_t⟩ := hQ2
  have N2 := Fr.app N0 Nq2
  refine own_st (T' := T2) (g' := (mkF m 9 #[rv a, rv va] [])) st2 ?_
  clear st2
  have f3 : Keep h0 T2.heap [a] := (Keep.refl h0 [a]).trans K2 (allS (Or.inl (List.mem_of_getElem? (i := 0) rfl)) all0)
  exact own_retV X2 hx hret hlk (hb hby d3_9) (by decide) (by decide) ⟨t2, kb2, rfl, N2, f3, fq2_0, fq2_1, fq2_2, fq2_3, (Nat.le_trans (Keep.refl h0 [a]).1 xq2_fresh_t)⟩
theorem ef_cmp5_2 (m : MethodId) (x0 : Addr) (x1 : Int32) (x2 : Addr) (x3 : Int32) (x4 : Int32) : entryFrame m #[(.ref x0), (.int x1), (.ref x2), (.int x3), (.int x4)] 7 = mkF m 0 #[rv x0, iv x1, rv x2, iv x3, iv x4, .unset, .unset] [] := by first | (simp [entryFrame, mkF, argsToLocals, Value.category]; done) | rfl
def Q_cmp5_2 (Z : State) (va : Addr) (da : Addr) (kc : ClassId) (kd : ClassId) (c0 : Int32) (c1 : Int32) (h0 : Heap) (n0 : Nat) (v : Option Value) (h : Heap) (L : List Loc) : Prop := (v = some (.int (2 : Int32))) ∧ (Fr n0 L) ∧ (Keep h0 h [da]) ∧ (Arv Z h da kd .byte (2 : Int32) [(.int (c0.toInt8.toInt32)), (.int (c1.toInt8.toInt32))] (.int (0 : Int32)))
set_option maxRecDepth 65536 in
set_option maxHeartbeats 40000000 in
theorem rm_cmp5_2 (l : Launch) (Z : State) (a0 : Array Value) (hw : ∀ d ∈ tables_1, d.before a0 Z = true) (ws : List Jvm.Cond) (va : Addr) (da : Addr) (kc : ClassId) (kd : ClassId) (c0 : Int32) (c1 : Int32) (h0 : Heap) (n0 : Nat) (O0 : Old Z n0 h0) (VA : Arv Z h0 va kc .char (2 : Int32) [(.int c0), (.int c1)] (.int (0 : Int32))) (VD : Arv Z h0 da kd .byte (2 : Int32) [(.int (0 : Int32)), (.int (0 : Int32))] (.int (0 : Int32))) (nad : va ≠ da) (fda : n0 ≤ da) (hp0 : ¬ (255 : Int32) < c0) (hp1 : ¬ (255 : Int32) < c1) :
    MetFree l own_m2 (head1 (Jvm.Cond.code own_m2 jdk_52_method_21_code 7 (some .int) :: ws) ({ frames := 0, cells := 0, slots := 0, locals := 0 } : Room)) (fun ar_ U => ar_ = #[(.ref va), (.int (0 : Int32)), (.ref da), (.int (0 : Int32)), (.int (2 : Int32))] ∧ Z.Warmed39 U.vm ∧ U.heap = h0) (fun _ _ _ _ _ => True) (fun _ U o U' => ∃ v L, o = .returned v ∧ Q_cmp5_2 Z va da kc kd c0 c1 h0 n0 v U'.heap L ∧ FrameEnd U o U' L ({ frames := 0, cells := 0, slots := 0, locals := 0 } : Room).cells ({ frames := 0, cells := 0, slots := 0, locals := 0 } : Room).slots) := by
  refine MetFree.of_bodySF (plainFor_of_name pn_1) hisR ?_
  intro p e s m args below meth c s₁ Bd hml0 hP hK
  obtain ⟨rfl, hZ, hh⟩ := hP
  have hx := Bd.exec
  have hby := Bd.bytes
  have hml : c.maxLocals = 7 := hml0
  have hown : s.vm.findClass "java/lang/StringUTF16" = some m.cls := findClass_of_methodNamed Bd.named
  have hnm := (name_of_methodNamed Bd.named Bd.method).1
  have X0 : Stand p l e ({ frames := 0, cells := 0, slots := 0, locals := 0 } : Room) s m #[(.ref va), (.int (0 : Int32)), (.ref da), (.int (0 : Int32)), (.int (2 : Int32))] below meth c s₁ [] 0 0 := Stand.of_body Bd
  have e0 : s₁.heap = h0 := by rw [← hh, Bd.state]; rfl
  have N0 := Fr.nil n0
  have hret := Bd.returns
  have hlk : meth.locks = false := Bd.notSynchronized
  show own_E p e below s ({ frames := 0, cells := 0, slots := 0, locals := 0 } : Room).cells ({ frames := 0, cells := 0, slots := 0, locals := 0 } : Room).slots (Q_cmp5_2 Z va da kc kd c0 c1 h0 n0) s₁ (entryFrame m #[(.ref va), (.int (0 : Int32)), (.ref da), (.int (0 : Int32)), (.int (2 : Int32))] 7)
  rw [ef_cmp5_2 m va (0 : Int32) da (0 : Int32) (2 : Int32)]
  refine own_st (T' := s₁) (g' := (mkF m 1 #[rv va, iv (0 : Int32), rv da, iv (0 : Int32), iv (2 : Int32), .unset, .unset] [(.int (0 : Int32))])) (fun _ k_ => XS.iconst X0.here hx rfl (hb hby d11_0) k_) ?_
  refine own_st (T' := s₁) (g' := (mkF m 3 #[rv va, iv (0 : Int32), rv da, iv (0 : Int32), iv (2 : Int32), iv (0 : Int32), .unset] [])) (fun _ k_ => XS.istore X0.here hx rfl (hb hby d11_1) rfl (l' := #[rv va, iv (0 : Int32), rv da, iv (0 : Int32), iv (2 : Int32), iv (0 : Int32), .unset]) rfl k_) ?_
  refine own_st (T' := s₁) (g' := (mkF m 5 #[rv va, iv (0 : Int32), rv da, iv (0 : Int32), iv (2 : Int32), iv (0 : Int32), .unset] [(.int (0 : Int32))])) (fun _ k_ => XS.iload X0.here hx rfl (hb hby d11_3) rfl  k_) ?_
  refine own_st (T' := s₁) (g' := (mkF m 7 #[rv va, iv (0 : Int32), rv da, iv (0 : Int32), iv (2 : Int32), iv (0 : Int32), .unset] [(.int (2 : Int32)), (.int (0 : Int32))])) (fun _ k_ => XS.iload X0.here hx rfl (hb hby d11_5) rfl  k_) ?_
  refine own_st (T' := s₁) (g' := (mkF m 10 #[rv va, iv (0 : Int32), rv da, iv (0 : Int32), iv (2 : Int32), iv (0 : Int32), .unset] [])) (fun _ k_ => XS.icmpNo X0.here hx rfl (hb hby d11_7) rfl (tlt (by decide : (0 : Int32) < (2 : Int32))).2.1 k_) ?_
  refine own_st (T' := s₁) (g' := (mkF m 11 #[rv va, iv (0 : Int32), rv da, iv (0 : Int32), iv (2 : Int32), iv (0 : Int32), .unset] [(.ref va)])) (fun _ k_ => XS.aloadN X0.here hx rfl (hb hby d11_10) rfl rfl  k_) ?_
  refine own_st (T' := s₁) (g' := (mkF m 12 #[rv va, iv (0 : Int32), rv da, iv (0 : Int32), iv (2 : Int32), iv (0 : Int32), .unset] [(.int (0 : Int32)), (.ref va)])) (fun _ k_ => XS.iloadN X0.here hx rfl (hb hby d11_11) rfl  k_) ?_
  obtain ⟨cl1, Ar1, q1, S1, N1, H1, G1⟩ := id VA
  have hin1 : ¬ ((0 : Int32) < 0 ∨ cl1.slots.size ≤ ((0 : Int32)).toNatClampNeg) := inb_of S1 ⟨by decide, by decide⟩
  refine own_st (T' := s₁) (g' := (mkF m 13 #[rv va, iv (0 : Int32), rv da, iv (0 : Int32), iv (2 : Int32), iv (0 : Int32), .unset] [(.int c0)])) (X0.caload hx (j := (0 : Int32)) (v := (.int c0)) (by rw [e0]; exact Ar1.1) (State.isArrayOf_alike hZ.alike Ar1.2.1) Ar1.2.2 hin1 (H1.at hin1 rfl) (g := (mkF m 12 #[rv va, iv (0 : Int32), rv da, iv (0 : Int32), iv (2 : Int32), iv (0 : Int32), .unset] [(.int (0 : Int32)), (.ref va)])) rfl rfl (hb hby d11_12)) ?_
  clear hin1 G1 H1 N1 S1 q1 Ar1 cl1
  refine own_st (T' := s₁) (g' := (mkF m 15 #[rv va, iv (0 : Int32), rv da, iv (0 : Int32), iv (2 : Int32), iv (0 : Int32), iv c0] [])) (fun _ k_ => XS.istore X0.here hx rfl (hb hby d11_13) rfl (l' := #[rv va, iv (0 : Int32), rv da, iv (0 : Int32), iv (2 : Int32), iv (0 : Int32), iv c0]) rfl k_) ?_
  refine own_st (T' := s₁) (g' := (mkF m 17 #[rv va, iv (0 : Int32), rv da, iv (0 : Int32), iv (2 : Int32), iv (0 : Int32), iv c0] [(.int c0)])) (fun _ k_ => XS.iload X0.here hx rfl (hb hby d11_15) rfl  k_) ?_
  refine own_st (T' := s₁) (g' := (mkF m 20 #[rv va, iv (0 : Int32), rv da, iv (0 : Int32), iv (2 : Int32), iv (0 : Int32), iv c0] [(.int (255 : Int32)), (.int c0)])) (fun _ k_ => XS.sipush X0.here hx rfl (hb hby d11_17) k_) ?_
  refine own_st (T' := s₁) (g' := (mkF m 26 #[rv va, iv (0 : Int32), rv da, iv (0 : Int32), iv (2 : Int32), iv (0 : Int32), iv c0] [])) (fun _ k_ => XS.icmpYes X0.here hx rfl (pc0 := 20) (pc' := 26) rfl (hb hby d11_20) rfl (flt (hp0 : ¬ ((255 : Int32) < c0))).2.2.2 (by decide) (by decide) k_) ?_
  refine own_st (T' := s₁) (g' := (mkF m 27 #[rv va, iv (0 : Int32), rv da, iv (0 : Int32), iv (2 : Int32), iv (0 : Int32), iv c0] [(.ref da)])) (fun _ k_ => XS.aloadN X0.here hx rfl (hb hby d11_26) rfl rfl  k_) ?_
  refine own_st (T' := s₁) (g' := (mkF m 28 #[rv va, iv (0 : Int32), rv da, iv (0 : Int32), iv (2 : Int32), iv (0 : Int32), iv c0] [(.int (0 : Int32)), (.ref da)])) (fun _ k_ => XS.iloadN X0.here hx rfl (hb hby d11_27) rfl  k_) ?_
  refine own_st (T' := s₁) (g' := (mkF m 30 #[rv va, iv (0 : Int32), rv da, iv (0 : Int32), iv (2 : Int32), iv (0 : Int32), iv c0] [(.int c0), (.int (0 : Int32)), (.ref da)])) (fun _ k_ => XS.iload X0.here hx rfl (hb hby d11_28) rfl  k_) ?_
  refine own_st (T' := s₁) (g' := (mkF m 31 #[rv va, iv (0 : Int32), rv da, iv (0 : Int32), iv (2 : Int32), iv (0 : Int32), iv c0] [(.int (c0.toInt8.toInt32)), (.int (0 : Int32)), (.ref da)])) (fun _ k_ => XS.i2b X0.here hx rfl (hb hby d11_30) rfl k_) ?_
  obtain ⟨cl2, Ar2, q2, S2, N2, H2, G2⟩ := id VD
  have hin2 : ¬ ((0 : Int32) < 0 ∨ cl2.slots.size ≤ ((0 : Int32)).toNatClampNeg) := inb_of S2 ⟨by decide, by decide⟩
  obtain ⟨T3, h3, X3, e3, W3, st3⟩ := stB X0 hx hZ e0 Ar2 (j := (0 : Int32)) hin2 (g := (mkF m 31 #[rv va, iv (0 : Int32), rv da, iv (0 : Int32), iv (2 : Int32), iv (0 : Int32), iv c0] [(.int (c0.toInt8.toInt32)), (.int (0 : Int32)), (.ref da)])) rfl rfl (hb hby d11_31)
  have V3 : Arv Z h3 da kd .byte (2 : Int32) [(.int (nar .byte (c0.toInt8.toInt32))), (.int (0 : Int32))] (.int (0 : Int32)) := Arv.set Ar2 q2 S2 N2 H2 G2 (fits_nar_byte _) W3 0 rfl (Nat.le_of_ble_eq_true rfl)
  have Vn3 : Arv Z h3 da kd .byte (2 : Int32) [(.int (c0.toInt8.toInt32)), (.int (0 : Int32))] (.int (0 : Int32)) := by simpa only [own_bb] using V3
  have Nx3 := Fr.snoc X3 N0 fda
  refine own_st (T' := T3) (g' := (mkF m 32 #[rv va, iv (0 : Int32), rv da, iv (0 : Int32), iv (2 : Int32), iv (0 : Int32), iv c0] [])) st3 ?_
  clear hin2 G2 H2 N2 S2 q2 Ar2 cl2 st3
  refine own_st (T' := T3) (g' := (mkF m 35 #[rv va, iv (1 : Int32), rv da, iv (0 : Int32), iv (2 : Int32), iv (0 : Int32), iv c0] [])) (fun _ k_ => XS.iinc X3.here hx rfl (hb hby d11_32) rfl (l' := #[rv va, iv (1 : Int32), rv da, iv (0 : Int32), iv (2 : Int32), iv (0 : Int32), iv c0]) rfl k_) ?_
  refine own_st (T' := T3) (g' := (mkF m 38 #[rv va, iv (1 : Int32), rv da, iv (1 : Int32), iv (2 : Int32), iv (0 : Int32), iv c0] [])) (fun _ k_ => XS.iinc X3.here hx rfl (hb hby d11_35) rfl (l' := #[rv va, iv (1 : Int32), rv da, iv (1 : Int32), iv (2 : Int32), iv (0 : Int32), iv c0]) rfl k_) ?_
  refine own_st (T' := T3) (g' := (mkF m 41 #[rv va, iv (1 : Int32), rv da, iv (1 : Int32), iv (2 : Int32), iv (1 : Int32), iv c0] [])) (fun _ k_ => XS.iinc X3.here hx rfl (hb hby d11_38) rfl (l' := #[rv va, iv (1 : Int32), rv da, iv (1 : Int32), iv (2 : Int32), iv (1 : Int32), iv c0]) rfl k_) ?_
  refine own_st (T' := T3) (g' := (mkF m 3 #[rv va, iv (1 : Int32), rv da, iv (1 : Int32), iv (2 : Int32), iv (1 : Int32), iv c0] [])) (fun _ k_ => XS.goto X3.here hx rfl (pc0 := 41) (pc' := 3) rfl (hb hby d11_41) (by decide) (by decide) k_) ?_
  refine own_st (T' := T3) (g' := (mkF m 5 #[rv va, iv (1 : Int32), rv da, iv (1 : Int32), iv (2 : Int32), iv (1 : Int32), iv c0] [(.int (1 : Int32))])) (fun _ k_ => XS.iload X3.here hx rfl (hb hby d11_3) rfl  k_) ?_
  refine own_st (T' := T3) (g' := (mkF m 7 #[rv va, iv (1 : Int32), rv da, iv (1 : Int32), iv (2 : Int32), iv (1 : Int32), iv c0] [(.int (2 : Int32)), (.int (1 : Int32))])) (fun _ k_ => XS.iload X3.here hx rfl (hb hby d11_5) rfl  k_) ?_
  refine own_st (T' := T3) (g' := (mkF m 10 #[rv va, iv (1 : Int32), rv da, iv (1 : Int32), iv (2 : Int32), iv (1 : Int32), iv c0] [])) (fun _ k_ => XS.icmpNo X3.here hx rfl (hb hby d11_7) rfl (tlt (by decide : (1 : Int32) < (2 : Int32))).2.1 k_) ?_
  refine own_st (T' := T3) (g' := (mkF m 11 #[rv va, iv (1 : Int32), rv da, iv (1 : Int32), iv (2 : Int32), iv (1 : Int32), iv c0] [(.ref va)])) (fun _ k_ => XS.aloadN X3.here hx rfl (hb hby d11_10) rfl rfl  k_) ?_
  refine own_st (T' := T3) (g' := (mkF m 12 #[rv va, iv (1 : Int32), rv da, iv (1 : Int32), iv (2 : Int32), iv (1 : Int32), iv c0] [(.int (1 : Int32)), (.ref va)])) (fun _ k_ => XS.iloadN X3.here hx rfl (hb hby d11_11) rfl  k_) ?_
  have f4 : Arv Z h3 va kc .char (2 : Int32) [(.int c0), (.int c1)] (.int (0 : Int32)) := VA.other W3 nad
  obtain ⟨cl5, Ar5, q5, S5, N5, H5, G5⟩ := id f4
  have hin5 : ¬ ((1 : Int32) < 0 ∨ cl5.slots.size ≤ ((1 : Int32)).toNatClampNeg) := inb_of S5 ⟨by decide, by decide⟩
  refine own_st (T' := T3) (g' := (mkF m 13 #[rv va, iv (1 : Int32), rv da, iv (1 : Int32), iv (2 : Int32), iv (1 : Int32), iv c0] [(.int c1)])) (X3.caload hx (j := (1 : Int32)) (v := (.int c1)) (by rw [e3]; exact Ar5.1) (State.isArrayOf_alike hZ.alike Ar5.2.1) Ar5.2.2 hin5 (H5.at hin5 rfl) (g := (mkF m 12 #[rv va, iv (1 : Int32), rv da, iv (1 : Int32), iv (2 : Int32), iv (1 : Int32), iv c0] [(.int (1 : Int32)), (.ref va)])) rfl rfl (hb hby d11_12)) ?_
  clear hin5 G5 H5 N5 S5 q5 Ar5 cl5
  refine own_st (T' := T3) (g' := (mkF m 15 #[rv va, iv (1 : Int32), rv da, iv (1 : Int32), iv (2 : Int32), iv (1 : Int32), iv c1] [])) (fun _ k_ => XS.istore X3.here hx rfl (hb hby d11_13) rfl (l' := #[rv va, iv (1 : Int32), rv da, iv (1 : Int32), iv (2 : Int32), iv (1 : Int32), iv c1]) rfl k_) ?_
  refine own_st (T' := T3) (g' := (mkF m 17 #[rv va, iv (1 : Int32), rv da, iv (1 : Int32), iv (2 : Int32), iv (1 : Int32), iv c1] [(.int c1)])) (fun _ k_ => XS.iload X3.here hx rfl (hb hby d11_15) rfl  k_) ?_
  refine own_st (T' := T3) (g' := (mkF m 20 #[rv va, iv (1 : Int32), rv da, iv (1 : Int32), iv (2 : Int32), iv (1 : Int32), iv c1] [(.int (255 : Int32)), (.int c1)])) (fun _ k_ => XS.sipush X3.here hx rfl (hb hby d11_17) k_) ?_
  refine own_st (T' := T3) (g' := (mkF m 26 #[rv va, iv (1 : Int32), rv da, iv (1 : Int32), iv (2 : Int32), iv (1 : Int32), iv c1] [])) (fun _ k_ => XS.icmpYes X3.here hx rfl (pc0 := 20) (pc' := 26) rfl (hb hby d11_20) rfl (flt (hp1 : ¬ ((255 : Int32) < c1))).2.2.2 (by decide) (by decide) k_) ?_
  refine own_st (T' := T3) (g' := (mkF m 27 #[rv va, iv (1 : Int32), rv da, iv (1 : Int32), iv (2 : Int32), iv (1 : Int32), iv c1] [(.ref da)])) (fun _ k_ => XS.aloadN X3.here hx rfl (hb hby d11_26) rfl rfl  k_) ?_
  refine own_st (T' := T3) (g' := (mkF m 28 #[rv va, iv (1 : Int32), rv da, iv (1 : Int32), iv (2 : Int32), iv (1 : Int32), iv c1] [(.int (1 : Int32)), (.ref da)])) (fun _ k_ => XS.iloadN X3.here hx rfl (hb hby d11_27) rfl  k_) ?_
  refine own_st (T' := T3) (g' := (mkF m 30 #[rv va, iv (1 : Int32), rv da, iv (1 : Int32), iv (2 : Int32), iv (1 : Int32), iv c1] [(.int c1), (.int (1 : Int32)), (.ref da)])) (fun _ k_ => XS.iload X3.here hx rfl (hb hby d11_28) rfl  k_) ?_
  refine own_st (T' := T3) (g' := (mkF m 31 #[rv va, iv (1 : Int32), rv da, iv (1 : Int32), iv (2 : Int32), iv (1 : Int32), iv c1] [(.int (c1.toInt8.toInt32)), (.int (1 : Int32)), (.ref da)])) (fun _ k_ => XS.i2b X3.here hx rfl (hb hby d11_30) rfl k_) ?_
  obtain ⟨cl6, Ar6, q6, S6, N6, H6, G6⟩ := id Vn3
  have hin6 : ¬ ((1 : Int32) < 0 ∨ cl6.slots.size ≤ ((1 : Int32)).toNatClampNeg) := inb_of S6 ⟨by decide, by decide⟩
  obtain ⟨T7, h7, X7, e7, W7, st7⟩ := stB X3 hx hZ e3 Ar6 (j := (1 : Int32)) hin6 (g := (mkF m 31 #[rv va, iv (1 : Int32), rv da, iv (1 : Int32), iv (2 : Int32), iv (1 : Int32), iv c1] [(.int (c1.toInt8.toInt32)), (.int (1 : Int32)), (.ref da)])) rfl rfl (hb hby d11_31)
  have V7 : Arv Z h7 da kd .byte (2 : Int32) [(.int (c0.toInt8.toInt32)), (.int (nar .byte (c1.toInt8.toInt32)))] (.int (0 : Int32)) := Arv.set Ar6 q6 S6 N6 H6 G6 (fits_nar_byte _) W7 1 rfl (Nat.le_of_ble_eq_true rfl)
  have Vn7 : Arv Z h7 da kd .byte (2 : Int32) [(.int (c0.toInt8.toInt32)), (.int (c1.toInt8.toInt32))] (.int (0 : Int32)) := by simpa only [own_bb] using V7
  have Nx7 := Fr.snoc X7 Nx3 fda
  refine own_st (T' := T7) (g' := (mkF m 32 #[rv va, iv (1 : Int32), rv da, iv (1 : Int32), iv (2 : Int32), iv (1 : Int32), iv c1] [])) st7 ?_
  clear hin6 G6 H6 N6 S6 q6 Ar6 cl6 st7
  refine own_st (T' := T7) (g' := (mkF m 35 #[rv va, iv (2 : Int32), rv da, iv (1 : Int32), iv (2 : Int32), iv (1 : Int32), iv c1] [])) (fun _ k_ => XS.iinc X7.here hx rfl (hb hby d11_32) rfl (l' := #[rv va, iv (2 : Int32), rv da, iv (1 : Int32), iv (2 : Int32), iv (1 : Int32), iv c1]) rfl k_) ?_
  refine own_st (T' := T7) (g' := (mkF m 38 #[rv va, iv (2 : Int32), rv da, iv (2 : Int32), iv (2 : Int32), iv (1 : Int32), iv c1] [])) (fun _ k_ => XS.iinc X7.here hx rfl (hb hby d11_35) rfl (l' := #[rv va, iv (2 : Int32), rv da, iv (2 : Int32), iv (2 : Int32), iv (1 : Int32), iv c1]) rfl k_) ?_
  refine own_st (T' := T7) (g' := (mkF m 41 #[rv va, iv (2 : Int32), rv da, iv (2 : Int32), iv (2 : Int32), iv (2 : Int32), iv c1] [])) (fun _ k_ => XS.iinc X7.here hx rfl (hb hby d11_38) rfl (l' := #[rv va, iv (2 : Int32), rv da, iv (2 : Int32), iv (2 : Int32), iv (2 : Int32), iv c1]) rfl k_) ?_
  refine own_st (T' := T7) (g' := (mkF m 3 #[rv va, iv (2 : Int32), rv da, iv (2 : Int32), iv (2 : Int32), iv (2 : Int32), iv c1] [])) (fun _ k_ => XS.goto X7.here hx rfl (pc0 := 41) (pc' := 3) rfl (hb hby d11_41) (by decide) (by decide) k_) ?_
  refine own_st (T' := T7) (g' := (mkF m 5 #[rv va, iv (2 : Int32), rv da, iv (2 : Int32), iv (2 : Int32), iv (2 : Int32), iv c1] [(.int (2 : Int32))])) (fun _ k_ => XS.iload X7.here hx rfl (hb hby d11_3) rfl  k_) ?_
  refine own_st (T' := T7) (g' := (mkF m 7 #[rv va, iv (2 : Int32), rv da, iv (2 : Int32), iv (2 : Int32), iv (2 : Int32), iv c1] [(.int (2 : Int32)), (.int (2 : Int32))])) (fun _ k_ => XS.iload X7.here hx rfl (hb hby d11_5) rfl  k_) ?_
  refine own_st (T' := T7) (g' := (mkF m 44 #[rv va, iv (2 : Int32), rv da, iv (2 : Int32), iv (2 : Int32), iv (2 : Int32), iv c1] [])) (fun _ k_ => XS.icmpYes X7.here hx rfl (pc0 := 7) (pc' := 44) rfl (hb hby d11_7) rfl (flt (by decide : ¬ ((2 : Int32) < (2 : Int32)))).2.1 (by decide) (by decide) k_) ?_
  refine own_st (T' := T7) (g' := (mkF m 46 #[rv va, iv (2 : Int32), rv da, iv (2 : Int32), iv (2 : Int32), iv (2 : Int32), iv c1] [(.int (2 : Int32))])) (fun _ k_ => XS.iload X7.here hx rfl (hb hby d11_44) rfl  k_) ?_
  have f8 : Keep h0 h3 [da] := (Keep.refl h0 [da]).wr W3 (Or.inl (List.mem_of_getElem? (i := 0) rfl))
  have f9 : Keep h0 h7 [da] := f8.wr W7 (Or.inl (List.mem_of_getElem? (i := 0) rfl))
  exact own_retI X7 hx hret hlk (hb hby d11_46) (by decide) (by decide) (by rw [e7]; exact ⟨rfl, Nx7, f9, Vn7⟩)
theorem ef_cmp3_2 (m : MethodId) (x0 : Addr) (x1 : Int32) (x2 : Int32) : entryFrame m #[(.ref x0), (.int x1), (.int x2)] 6 = mkF m 0 #[rv x0, iv x1, iv x2, .unset, .unset, .unset] [] := by first | (simp [entryFrame, mkF, argsToLocals, Value.category]; done) | rfl
def Q_cmp3_2 (Z : State) (va : Addr) (kc : ClassId) (c0 : Int32) (c1 : Int32) (h0 : Heap) (n0 : Nat) (v : Option Value) (h : Heap) (L : List Loc) : Prop := ∃ (t : Addr) (kb : ClassId), (v = some (.ref t)) ∧ (Fr n0 L) ∧ (Keep h0 h []) ∧ (Arv Z h t kb .byte (2 : Int32) [(.int (c0.toInt8.toInt32)), (.int (c1.toInt8.toInt32))] (.int (0 : Int32))) ∧ (h0.size ≤ t)
set_option maxRecDepth 65536 in
set_option maxHeartbeats 40000000 in
theorem rm_cmp3_2 (l : Launch) (Z : State) (a0 : Array Value) (hw : ∀ d ∈ tables_1, d.before a0 Z = true) (ws : List Jvm.Cond) (va : Addr) (kc : ClassId) (c0 : Int32) (c1 : Int32) (h0 : Heap) (n0 : Nat) (O0 : Old Z n0 h0) (VA : Arv Z h0 va kc .char (2 : Int32) [(.int c0), (.int c1)] (.int (0 : Int32))) (hp0 : ¬ (255 : Int32) < c0) (hp1 : ¬ (255 : Int32) < c1) :
    MetFree l own_m3 (head1 (Jvm.Cond.code own_m3 jdk_52_method_16_code 6 (some (.array .byte)) :: ws) ({ frames := 1, cells := 1, slots := 2, locals := 18 } : Room)) (fun ar_ U => ar_ = #[(.ref va), (.int (0 : Int32)), (.int (2 : Int32))] ∧ Z.Warmed39 U.vm ∧ U.heap = h0) (fun _ _ _ _ _ => True) (fun _ U o U' => ∃ v L, o = .returned v ∧ Q_cmp3_2 Z va kc c0 c1 h0 n0 v U'.heap L ∧ FrameEnd U o U' L ({ frames := 1, cells := 1, slots := 2, locals := 18 } : Room).cells ({ frames := 1, cells := 1, slots := 2, locals := 18 } : Room).slots) := by
  refine MetFree.of_bodySF (plainFor_of_name pn_1) hisR ?_
  intro p e s m args below meth c s₁ Bd hml0 hP hK
  obtain ⟨rfl, hZ, hh⟩ := hP
  have hx := Bd.exec
  have hby := Bd.bytes
  have hml : c.maxLocals = 6 := hml0
  have hown : s.vm.findClass "java/lang/StringUTF16" = some m.cls := findClass_of_methodNamed Bd.named
  have hnm := (name_of_methodNamed Bd.named Bd.method).1
  have X0 : Stand p l e ({ frames := 1, cells := 1, slots := 2, locals := 18 } : Room) s m #[(.ref va), (.int (0 : Int32)), (.int (2 : Int32))] below meth c s₁ [] 0 0 := Stand.of_body Bd
  have e0 : s₁.heap = h0 := by rw [← hh, Bd.state]; rfl
  have N0 := Fr.nil n0
  have hret := Bd.returns
  have hlk : meth.locks = false := Bd.notSynchronized
  show own_E p e below s ({ frames := 1, cells := 1, slots := 2, locals := 18 } : Room).cells ({ frames := 1, cells := 1, slots := 2, locals := 18 } : Room).slots (Q_cmp3_2 Z va kc c0 c1 h0 n0) s₁ (entryFrame m #[(.ref va), (.int (0 : Int32)), (.int (2 : Int32))] 6)
  rw [ef_cmp3_2 m va (0 : Int32) (2 : Int32)]
  refine own_st (T' := s₁) (g' := (mkF m 1 #[rv va, iv (0 : Int32), iv (2 : Int32), .unset, .unset, .unset] [(.int (2 : Int32))])) (fun _ k_ => XS.iloadN X0.here hx rfl (hb hby d10_0) rfl  k_) ?_
  obtain ⟨T1, h1, k1, X1, e1, E1, A1, st1⟩ := newP X0 hx hZ (hw _ (List.mem_of_getElem? (i := 22) rfl)) e0 (g := (mkF m 1 #[rv va, iv (0 : Int32), iv (2 : Int32), .unset, .unset, .unset] [(.int (2 : Int32))])) rfl (hb hby d10_1) rfl (by decide) (cap := 2) (by decide) (by decide) (by decide) (by decide)
  obtain ⟨b1, g1⟩ : ∃ z, z = h0.size := ⟨_, rfl⟩
  rw [← g1] at A1 st1
  have fr1 : n0 ≤ b1 := Nat.le_trans (own_z O0) (Nat.le_of_eq g1.symm)
  have sz1 : h0.size ≤ b1 := Nat.le_trans (Keep.refl h0 []).1 (Nat.le_of_eq g1.symm)
  have V1 : Arv Z h1 b1 k1 .byte (2 : Int32) [(.int (0 : Int32)), (.int (0 : Int32))] (.int (0 : Int32)) := (Arv.new A1 (by decide)).pad (pad_rep [] (.int (0 : Int32)) 2)
  refine own_st (T' := T1) (g' := (mkF m 3 #[rv va, iv (0 : Int32), iv (2 : Int32), .unset, .unset, .unset] [(.ref b1)])) st1 ?_
  clear st1
  refine own_st (T' := T1) (g' := (mkF m 4 #[rv va, iv (0 : Int32), iv (2 : Int32), rv b1, .unset, .unset] [])) (fun _ k_ => XS.astoreN X1.here hx rfl (hb hby d10_3) rfl rfl (l' := #[rv va, iv (0 : Int32), iv (2 : Int32), rv b1, .unset, .unset]) rfl k_) ?_
  refine own_st (T' := T1) (g' := (mkF m 5 #[rv va, iv (0 : Int32), iv (2 : Int32), rv b1, .unset, .unset] [(.ref va)])) (fun _ k_ => XS.aloadN X1.here hx rfl (hb hby d10_4) rfl rfl  k_) ?_
  refine own_st (T' := T1) (g' := (mkF m 6 #[rv va, iv (0 : Int32), iv (2 : Int32), rv b1, .unset, .unset] [(.int (0 : Int32)), (.ref va)])) (fun _ k_ => XS.iloadN X1.here hx rfl (hb hby d10_5) rfl  k_) ?_
  refine own_st (T' := T1) (g' := (mkF m 7 #[rv va, iv (0 : Int32), iv (2 : Int32), rv b1, .unset, .unset] [(.ref b1), (.int (0 : Int32)), (.ref va)])) (fun _ k_ => XS.aloadN X1.here hx rfl (hb hby d10_6) rfl rfl  k_) ?_
  refine own_st (T' := T1) (g' := (mkF m 8 #[rv va, iv (0 : Int32), iv (2 : Int32), rv b1, .unset, .unset] [(.int (0 : Int32)), (.ref b1), (.int (0 : Int32)), (.ref va)])) (fun _ k_ => XS.iconst X1.here hx rfl (hb hby d10_7) k_) ?_
  refine own_st (T' := T1) (g' := (mkF m 9 #[rv va, iv (0 : Int32), iv (2 : Int32), rv b1, .unset, .unset] [(.int (2 : Int32)), (.int (0 : Int32)), (.ref b1), (.int (0 : Int32)), (.ref va)])) (fun _ k_ => XS.iloadN X1.here hx rfl (hb hby d10_8) rfl  k_) ?_
  have f2 : Arv Z h1 va kc .char (2 : Int32) [(.int c0), (.int c1)] (.int (0 : Int32)) := VA.ext E1
  have ne3 : va ≠ b1 := Nat.ne_of_lt (Nat.lt_of_lt_of_le VA.lt (Nat.le_of_eq g1.symm))
  have f4 : Old Z n0 h1 := O0.ext E1
  obtain ⟨_, T5, L5, X5, hQ5, st5⟩ := own_callS X1 hx (y := own_m2) hown (mvT hZ (hw _ (List.mem_of_getElem? (i := 51) rfl))) (mvT hZ (hw _ (List.mem_of_getElem? (i := 52) rfl))) (mvT hZ (hw _ (List.mem_of_getElem? (i := 49) rfl))) (mvT hZ (hw _ (List.mem_of_getElem? (i := 53) rfl))) (by decide) (backOf (W := 0) (rm_cmp5_2 l Z a0 hw [] va b1 kc k1 c0 c1 h1 n0 f4 f2 V1 ne3 fr1 hp0 hp1) hZ (hw _ (List.mem_of_getElem? (i := 53) rfl)) (hw _ (List.mem_of_getElem? (i := 49) rfl)) (by decide) (by decide)) (g := (mkF m 9 #[rv va, iv (0 : Int32), iv (2 : Int32), rv b1, .unset, .unset] [(.int (2 : Int32)), (.int (0 : Int32)), (.ref b1), (.int (0 : Int32)), (.ref va)])) rfl (by rw [hml]; rfl) (argsL := [(.ref va), (.int (0 : Int32)), (.ref b1), (.int (0 : Int32)), (.int (2 : Int32))]) (rest := []) (lenOf pd___CI_BII_I rfl) rfl (by show 2 * 0 + _ ≤ _; exact Nat.le_of_eq rfl) (hb hby d10_9) rfl e1 (by decide) (by decide) (c' := 1) (s' := 2) rfl rfl
  obtain ⟨rfl, Nq5, K5, fq5_0⟩ := hQ5
  have N5 := Fr.app N0 Nq5
  refine own_st (T' := T5) (g' := (mkF m 12 #[rv va, iv (0 : Int32), iv (2 : Int32), rv b1, .unset, .unset] [(.int (2 : Int32))])) st5 ?_
  clear st5
  refine own_st (T' := T5) (g' := (mkF m 14 #[rv va, iv (0 : Int32), iv (2 : Int32), rv b1, iv (2 : Int32), .unset] [])) (fun _ k_ => XS.istore X5.here hx rfl (hb hby d10_12) rfl (l' := #[rv va, iv (0 : Int32), iv (2 : Int32), rv b1, iv (2 : Int32), .unset]) rfl k_) ?_
  refine own_st (T' := T5) (g' := (mkF m 16 #[rv va, iv (0 : Int32), iv (2 : Int32), rv b1, iv (2 : Int32), .unset] [(.int (2 : Int32))])) (fun _ k_ => XS.iload X5.here hx rfl (hb hby d10_14) rfl  k_) ?_
  refine own_st (T' := T5) (g' := (mkF m 17 #[rv va, iv (0 : Int32), iv (2 : Int32), rv b1, iv (2 : Int32), .unset] [(.int (2 : Int32)), (.int (2 : Int32))])) (fun _ k_ => XS.iloadN X5.here hx rfl (hb hby d10_16) rfl  k_) ?_
  refine own_st (T' := T5) (g' := (mkF m 57 #[rv va, iv (0 : Int32), iv (2 : Int32), rv b1, iv (2 : Int32), .unset] [])) (fun _ k_ => XS.icmpYes X5.here hx rfl (pc0 := 17) (pc' := 57) rfl (hb hby d10_17) rfl (teq (rfl : (2 : Int32) = (2 : Int32))).1 (by decide) (by decide) k_) ?_
  refine own_st (T' := T5) (g' := (mkF m 58 #[rv va, iv (0 : Int32), iv (2 : Int32), rv b1, iv (2 : Int32), .unset] [(.ref b1)])) (fun _ k_ => XS.aloadN X5.here hx rfl (hb hby d10_57) rfl rfl  k_) ?_
  have f6 : Keep h0 h1 [] := (Keep.refl h0 []).ext E1
  have f7 : Keep h0 T5.heap [] := f6.trans K5 (allS (Or.inr sz1) all0)
  exact own_retA X5 hx hret rfl rfl hlk (hb hby d10_58) (by decide) (by decide) ⟨b1, k1, rfl, N5, f7, fq5_0, sz1⟩
theorem ef_cdr_2 (m : MethodId) (x0 : Addr) (x1 : Int32) : entryFrame m #[(.ref x0), (.int x1)] 2 = mkF m 0 #[rv x0, iv x1] [] := by first | (simp [entryFrame, mkF, argsToLocals, Value.category]; done) | rfl
def Q_cdr_2 (Z : State) (t : Addr) (kb : ClassId) (vs : List Value) (h0 : Heap) (n0 : Nat) (v : Option Value) (h : Heap) (L : List Loc) : Prop := (v = some (.int (0 : Int32))) ∧ (Fr n0 L) ∧ (h = h0)
set_option maxRecDepth 65536 in
set_option maxHeartbeats 40000000 in
theorem rm_cdr_2 (l : Launch) (Z : State) (a0 : Array Value) (hw : ∀ d ∈ tables_1, d.before a0 Z = true) (ws : List Jvm.Cond) (t : Addr) (kb : ClassId) (vs : List Value) (h0 : Heap) (n0 : Nat) (O0 : Old Z n0 h0) (VT : Arv Z h0 t kb .byte (2 : Int32) vs (.int (0 : Int32))) :
    MetFree l own_m4 (head1 (Jvm.Cond.code own_m4 jdk_52_method_15_code 2 (some .byte) :: ws) ({ frames := 0, cells := 0, slots := 0, locals := 0 } : Room)) (fun ar_ U => ar_ = #[(.ref t), (.int (2 : Int32))] ∧ Z.Warmed39 U.vm ∧ U.heap = h0) (fun _ _ _ _ _ => True) (fun _ U o U' => ∃ v L, o = .returned v ∧ Q_cdr_2 Z t kb vs h0 n0 v U'.heap L ∧ FrameEnd U o U' L ({ frames := 0, cells := 0, slots := 0, locals := 0 } : Room).cells ({ frames := 0, cells := 0, slots := 0, locals := 0 } : Room).slots) := by
  refine MetFree.of_bodySF (plainFor_of_name pn_1) hisR ?_
  intro p e s m args below meth c s₁ Bd hml0 hP hK
  obtain ⟨rfl, hZ, hh⟩ := hP
  have hx := Bd.exec
  have hby := Bd.bytes
  have hml : c.maxLocals = 2 := hml0
  have hown : s.vm.findClass "java/lang/StringUTF16" = some m.cls := findClass_of_methodNamed Bd.named
  have hnm := (name_of_methodNamed Bd.named Bd.method).1
  have X0 : Stand p l e ({ frames := 0, cells := 0, slots := 0, locals := 0 } : Room) s m #[(.ref t), (.int (2 : Int32))] below meth c s₁ [] 0 0 := Stand.of_body Bd
  have e0 : s₁.heap = h0 := by rw [← hh, Bd.state]; rfl
  have N0 := Fr.nil n0
  have hret := Bd.returns
  have hlk : meth.locks = false := Bd.notSynchronized
  show own_E p e below s ({ frames := 0, cells := 0, slots := 0, locals := 0 } : Room).cells ({ frames := 0, cells := 0, slots := 0, locals := 0 } : Room).slots (Q_cdr_2 Z t kb vs h0 n0) s₁ (entryFrame m #[(.ref t), (.int (2 : Int32))] 2)
  rw [ef_cdr_2 m t (2 : Int32)]
  refine own_st (T' := s₁) (g' := (mkF m 1 #[rv t, iv (2 : Int32)] [(.int (2 : Int32))])) (fun _ k_ => XS.iloadN X0.here hx rfl (hb hby d12_0) rfl  k_) ?_
  refine own_st (T' := s₁) (g' := (mkF m 2 #[rv t, iv (2 : Int32)] [(.ref t), (.int (2 : Int32))])) (fun _ k_ => XS.aloadN X0.here hx rfl (hb hby d12_1) rfl rfl  k_) ?_
  obtain ⟨cl1, Ar1, -, S1, N1, -, -⟩ := id VT
  refine own_st (T' := s₁) (g' := (mkF m 3 #[rv t, iv (2 : Int32)] [(.int (2 : Int32)), (.int (2 : Int32))])) (fun t_ k_ => X0.arraylength hx (by rw [e0]; exact Ar1.1) (State.isArrayOf_alike hZ.alike Ar1.2.1) (g := (mkF m 2 #[rv t, iv (2 : Int32)] [(.ref t), (.int (2 : Int32))])) rfl rfl (hb hby d12_2) _ (by rw [len_of S1 N1]; exact k_)) ?_
  refine own_st (T' := s₁) (g' := (mkF m 4 #[rv t, iv (2 : Int32)] [(.int (0 : Int32))])) (fun _ k_ => XS.isub X0.here hx rfl (hb hby d12_3) rfl k_) ?_
  refine own_st (T' := s₁) (g' := (mkF m 6 #[rv t, iv (2 : Int32)] [(.int (31 : Int32)), (.int (0 : Int32))])) (fun _ k_ => XS.bipush X0.here hx rfl (hb hby d12_4) k_) ?_
  refine own_st (T' := s₁) (g' := (mkF m 7 #[rv t, iv (2 : Int32)] [(.int (((0 : Int32).toUInt32 >>> ((31 : Int32) &&& 31).toUInt32).toInt32))])) (fun _ k_ => XS.iushr X0.here hx rfl (hb hby d12_6) rfl k_) ?_
  refine own_st (T' := s₁) (g' := (mkF m 8 #[rv t, iv (2 : Int32)] [(.int ((((0 : Int32).toUInt32 >>> ((31 : Int32) &&& 31).toUInt32).toInt32).toInt8.toInt32))])) (fun _ k_ => XS.i2b X0.here hx rfl (hb hby d12_7) rfl k_) ?_
  exact own_retN X0 hx (t := .byte) hret (by simp) hlk (hb hby d12_8) (by decide) (by decide) ⟨(by decide), N0, e0⟩
theorem ef_ini4_2 (m : MethodId) (x0 : Addr) (x1 : Addr) (x2 : Int32) (x3 : Int32) : entryFrame m #[(.ref x0), (.ref x1), (.int x2), (.int x3), .null] 6 = mkF m 0 #[rv x0, rv x1, iv x2, iv x3, .val .null, .unset] [] := by first | (simp [entryFrame, mkF, argsToLocals, Value.category]; done) | rfl
def Q_ini4_2 (Z : State) (a : Addr) (va : Addr) (kc : ClassId) (cz : Int32) (c0 : Int32) (c1 : Int32) (h0 : Heap) (n0 : Nat) (v : Option Value) (h : Heap) (L : List Loc) : Prop := ∃ (t : Addr) (kb : ClassId), (v = none) ∧ (Fr n0 L) ∧ (Keep h0 h [a]) ∧ (Exa Z h a "java/lang/String") ∧ (Fld Z h a "java/lang/String" "coder" "B" (.int (0 : Int32))) ∧ (Fld Z h a "java/lang/String" "value" "[B" (.ref t)) ∧ (Arv Z h t kb .byte (2 : Int32) [(.int (c0.toInt8.toInt32)), (.int (c1.toInt8.toInt32))] (.int (0 : Int32))) ∧ (h0.size ≤ t)
set_option maxRecDepth 65536 in
set_option maxHeartbeats 40000000 in
theorem rm_ini4_2 (l : Launch) (Z : State) (a0 : Array Value) (hw : ∀ d ∈ tables_1, d.before a0 Z = true) (ws : List Jvm.Cond) (a : Addr) (va : Addr) (kc : ClassId) (cz : Int32) (c0 : Int32) (c1 : Int32) (h0 : Heap) (n0 : Nat) (O0 : Old Z n0 h0) (EA : Exa Z h0 a "java/lang/String") (FV : Fld Z h0 a "java/lang/String" "value" "[B" .null) (FC : Fld Z h0 a "java/lang/String" "coder" "B" (.int (0 : Int32))) (fa : n0 ≤ a) (VA : Arv Z h0 va kc .char (2 : Int32) [(.int c0), (.int c1)] (.int (0 : Int32))) (SC : Sta Z Z.heap "java/lang/String" "COMPACT_STRINGS" "Z" (.int cz)) (hcz : ¬ cz = (0 : Int32)) (hp0 : ¬ (255 : Int32) < c0) (hp1 : ¬ (255 : Int32) < c1) :
    MetFree l own_m0 (head1 (Jvm.Cond.code own_m0 jdk_42_method_149_code 6 none :: ws) ({ frames := 2, cells := 1, slots := 2, locals := 35 } : Room)) (fun ar_ U => ar_ = #[(.ref a), (.ref va), (.int (0 : Int32)), (.int (2 : Int32)), .null] ∧ Z.Warmed39 U.vm ∧ U.heap = h0) (fun _ _ _ _ _ => True) (fun _ U o U' => ∃ v L, o = .returned v ∧ Q_ini4_2 Z a va kc cz c0 c1 h0 n0 v U'.heap L ∧ FrameEnd U o U' L ({ frames := 2, cells := 1, slots := 2, locals := 35 } : Room).cells ({ frames := 2, cells := 1, slots := 2, locals := 35 } : Room).slots) := by
  refine MetFree.of_bodySF (plainFor_of_name pn_0) hisR ?_
  intro p e s m args below meth c s₁ Bd hml0 hP hK
  obtain ⟨rfl, hZ, hh⟩ := hP
  have hx := Bd.exec
  have hby := Bd.bytes
  have hml : c.maxLocals = 6 := hml0
  have hown : s.vm.findClass "java/lang/String" = some m.cls := findClass_of_methodNamed Bd.named
  have hnm := (name_of_methodNamed Bd.named Bd.method).1
  have X0 : Stand p l e ({ frames := 2, cells := 1, slots := 2, locals := 35 } : Room) s m #[(.ref a), (.ref va), (.int (0 : Int32)), (.int (2 : Int32)), .null] below meth c s₁ [] 0 0 := Stand.of_body Bd
  have e0 : s₁.heap = h0 := by rw [← hh, Bd.state]; rfl
  have N0 := Fr.nil n0
  have hret := Bd.returns
  have hlk : meth.locks = false := Bd.notSynchronized
  show own_E p e below s ({ frames := 2, cells := 1, slots := 2, locals := 35 } : Room).cells ({ frames := 2, cells := 1, slots := 2, locals := 35 } : Room).slots (Q_ini4_2 Z a va kc cz c0 c1 h0 n0) s₁ (entryFrame m #[(.ref a), (.ref va), (.int (0 : Int32)), (.int (2 : Int32)), .null] 6)
  rw [ef_ini4_2 m a va (0 : Int32) (2 : Int32)]
  refine own_st (T' := s₁) (g' := (mkF m 1 #[rv a, rv va, iv (0 : Int32), iv (2 : Int32), .val .null, .unset] [(.ref a)])) (fun _ k_ => XS.aloadN X0.here hx rfl (hb hby d4_0) rfl rfl  k_) ?_
  obtain ⟨T1, X1, e1, st1⟩ := initO X0 hx hZ hown (hw _ (List.mem_of_getElem? (i := 18) rfl)) (hw _ (List.mem_of_getElem? (i := 19) rfl)) (hw _ (List.mem_of_getElem? (i := 20) rfl)) e0 (g := (mkF m 1 #[rv a, rv va, iv (0 : Int32), iv (2 : Int32), .val .null, .unset] [(.ref a)])) rfl (by rw [hml]; rfl) rfl (hb hby d4_1) (by decide) (W := 0) (by show 2 * 0 + _ ≤ _; exact Nat.le_of_eq rfl) (by decide)
  refine own_st (T' := T1) (g' := (mkF m 4 #[rv a, rv va, iv (0 : Int32), iv (2 : Int32), .val .null, .unset] [])) st1 ?_
  clear st1
  refine own_st (T' := T1) (g' := (mkF m 5 #[rv a, rv va, iv (0 : Int32), iv (2 : Int32), .val .null, .unset] [(.int (2 : Int32))])) (fun _ k_ => XS.iloadN X1.here hx rfl (hb hby d4_4) rfl  k_) ?_
  refine own_st (T' := T1) (g' := (mkF m 27 #[rv a, rv va, iv (0 : Int32), iv (2 : Int32), .val .null, .unset] [])) (fun _ k_ => XS.ifYes X1.here hx rfl (pc0 := 5) (pc' := 27) rfl (hb hby d4_5) rfl ((if0 _ _).trans (feq (by decide : ¬ ((2 : Int32) = (0 : Int32)))).2) (by decide) (by decide) k_) ?_
  obtain ⟨T2, X2, e2, st2⟩ := getS2 X1 hx hZ hown (host := "") (Or.inl (hw _ (List.mem_of_getElem? (i := 43) rfl))) Via.refl e1 (SC.ext O0.2) (g := (mkF m 27 #[rv a, rv va, iv (0 : Int32), iv (2 : Int32), .val .null, .unset] [])) rfl (hb hby d4_27)
  refine own_st (T' := T2) (g' := (mkF m 30 #[rv a, rv va, iv (0 : Int32), iv (2 : Int32), .val .null, .unset] [(.int cz)])) st2 ?_
  clear st2
  refine own_st (T' := T2) (g' := (mkF m 33 #[rv a, rv va, iv (0 : Int32), iv (2 : Int32), .val .null, .unset] [])) (fun _ k_ => XS.ifNo X2.here hx rfl (hb hby d4_30) rfl ((if0 _ _).trans (feq (hcz : ¬ (cz = (0 : Int32)))).1) k_) ?_
  refine own_st (T' := T2) (g' := (mkF m 34 #[rv a, rv va, iv (0 : Int32), iv (2 : Int32), .val .null, .unset] [(.ref va)])) (fun _ k_ => XS.aloadN X2.here hx rfl (hb hby d4_33) rfl rfl  k_) ?_
  refine own_st (T' := T2) (g' := (mkF m 35 #[rv a, rv va, iv (0 : Int32), iv (2 : Int32), .val .null, .unset] [(.int (0 : Int32)), (.ref va)])) (fun _ k_ => XS.iloadN X2.here hx rfl (hb hby d4_34) rfl  k_) ?_
  refine own_st (T' := T2) (g' := (mkF m 36 #[rv a, rv va, iv (0 : Int32), iv (2 : Int32), .val .null, .unset] [(.int (2 : Int32)), (.int (0 : Int32)), (.ref va)])) (fun _ k_ => XS.iloadN X2.here hx rfl (hb hby d4_35) rfl  k_) ?_
  obtain ⟨_, T3, L3, X3, hQ3, st3⟩ := own_callS X2 hx (y := own_m3) hown (mvT hZ (hw _ (List.mem_of_getElem? (i := 47) rfl))) (mvT hZ (hw _ (List.mem_of_getElem? (i := 48) rfl))) (mvT hZ (hw _ (List.mem_of_getElem? (i := 49) rfl))) (mvT hZ (hw _ (List.mem_of_getElem? (i := 50) rfl))) (by decide) (backOf (W := 0) (rm_cmp3_2 l Z a0 hw [] va kc c0 c1 h0 n0 O0 VA hp0 hp1) hZ (hw _ (List.mem_of_getElem? (i := 50) rfl)) (hw _ (List.mem_of_getElem? (i := 49) rfl)) (by decide) (by decide)) (g := (mkF m 36 #[rv a, rv va, iv (0 : Int32), iv (2 : Int32), .val .null, .unset] [(.int (2 : Int32)), (.int (0 : Int32)), (.ref va)])) rfl (by rw [hml]; rfl) (argsL := [(.ref va), (.int (0 : Int32)), (.int (2 : Int32))]) (rest := []) (lenOf pd___CII__B rfl) rfl (by show 2 * 0 + _ ≤ _; exact Nat.le_of_eq rfl) (hb hby d4_36) rfl e2 (by decide) (by decide) (c' := 1) (s' := 2) rfl rfl
  obtain ⟨t3, kb3, rfl, Nq3, K3, fq3_0, xq3_fresh_t⟩ := hQ3
  have N3 := Fr.app N0 Nq3
  refine own_st (T' := T3) (g' := (mkF m 39 #[rv a, rv va, iv (0 : Int32), iv (2 : Int32), .val .null, .unset] [(.ref t3)])) st3 ?_
  clear st3
  refine own_st (T' := T3) (g' := (mkF m 41 #[rv a, rv va, iv (0 : Int32), iv (2 : Int32), .val .null, rv t3] [])) (fun _ k_ => XS.astore X3.here hx rfl (hb hby d4_39) rfl rfl (l' := #[rv a, rv va, iv (0 : Int32), iv (2 : Int32), .val .null, rv t3]) rfl k_) ?_
  refine own_st (T' := T3) (g' := (mkF m 42 #[rv a, rv va, iv (0 : Int32), iv (2 : Int32), .val .null, rv t3] [(.ref a)])) (fun _ k_ => XS.aloadN X3.here hx rfl (hb hby d4_41) rfl rfl  k_) ?_
  refine own_st (T' := T3) (g' := (mkF m 44 #[rv a, rv va, iv (0 : Int32), iv (2 : Int32), .val .null, rv t3] [(.ref t3), (.ref a)])) (fun _ k_ => XS.aload X3.here hx rfl (hb hby d4_42) rfl rfl  k_) ?_
  refine own_st (T' := T3) (g' := (mkF m 45 #[rv a, rv va, iv (0 : Int32), iv (2 : Int32), .val .null, rv t3] [(.int (2 : Int32)), (.ref t3), (.ref a)])) (fun _ k_ => XS.iloadN X3.here hx rfl (hb hby d4_44) rfl  k_) ?_
  have f4 : Old Z n0 T3.heap := O0.keep K3 all0
  obtain ⟨_, T5, L5, X5, hQ5, st5⟩ := own_callS X3 hx (y := own_m4) hown (mvT hZ (hw _ (List.mem_of_getElem? (i := 54) rfl))) (mvT hZ (hw _ (List.mem_of_getElem? (i := 55) rfl))) (mvT hZ (hw _ (List.mem_of_getElem? (i := 49) rfl))) (mvT hZ (hw _ (List.mem_of_getElem? (i := 56) rfl))) (by decide) (backOf (W := 1) (rm_cdr_2 l Z a0 hw [] t3 kb3 [(.int (c0.toInt8.toInt32)), (.int (c1.toInt8.toInt32))] T3.heap n0 f4 fq3_0) hZ (hw _ (List.mem_of_getElem? (i := 56) rfl)) (hw _ (List.mem_of_getElem? (i := 49) rfl)) (by decide) (by decide)) (g := (mkF m 45 #[rv a, rv va, iv (0 : Int32), iv (2 : Int32), .val .null, rv t3] [(.int (2 : Int32)), (.ref t3), (.ref a)])) rfl (by rw [hml]; rfl) (argsL := [(.ref t3), (.int (2 : Int32))]) (rest := [(.ref a)]) (lenOf pd___BI_B rfl) rfl (by show 2 * 0 + _ ≤ _; exact Nat.le_of_eq rfl) (hb hby d4_45) rfl rfl (by decide) (by decide) (c' := 1) (s' := 2) rfl rfl
  obtain ⟨rfl, Nq5, eq5⟩ := hQ5
  have N5 := Fr.app N3 Nq5
  refine own_st (T' := T5) (g' := (mkF m 48 #[rv a, rv va, iv (0 : Int32), iv (2 : Int32), .val .null, rv t3] [(.int (0 : Int32)), (.ref a)])) st5 ?_
  clear st5
  have f6 : Exa Z T3.heap a "java/lang/String" := EA.keep K3
  have f7 : Fld Z T3.heap a "java/lang/String" "coder" "B" (.int (0 : Int32)) := FC.keep K3 nin0
  obtain ⟨T8, h8, X8, e8, W8, st8⟩ := putFN X5 hx hZ hown (hw _ (List.mem_of_getElem? (i := 28) rfl)) Via.refl eq5 f7 f6 (Or.inr ⟨(hw _ (List.mem_of_getElem? (i := 24) rfl)), rfl, hnm⟩) (hw _ (List.mem_of_getElem? (i := 8) rfl)) (ty := .byte) (v' := (.int (0 : Int32))) (by decide) rfl (by decide) (g := (mkF m 48 #[rv a, rv va, iv (0 : Int32), iv (2 : Int32), .val .null, rv t3] [(.int (0 : Int32)), (.ref a)])) rfl rfl (hb hby d4_48)
  have Fw8 : Fld Z h8 a "java/lang/String" "coder" "B" (.int (0 : Int32)) := Fld.same W8 f7
  have N8 := Fr.snoc X8 N5 fa
  refine own_st (T' := T8) (g' := (mkF m 51 #[rv a, rv va, iv (0 : Int32), iv (2 : Int32), .val .null, rv t3] [])) st8 ?_
  clear st8
  refine own_st (T' := T8) (g' := (mkF m 52 #[rv a, rv va, iv (0 : Int32), iv (2 : Int32), .val .null, rv t3] [(.ref a)])) (fun _ k_ => XS.aloadN X8.here hx rfl (hb hby d4_51) rfl rfl  k_) ?_
  refine own_st (T' := T8) (g' := (mkF m 54 #[rv a, rv va, iv (0 : Int32), iv (2 : Int32), .val .null, rv t3] [(.ref t3), (.ref a)])) (fun _ k_ => XS.aload X8.here hx rfl (hb hby d4_52) rfl rfl  k_) ?_
  have f9 : Exa Z h8 a "java/lang/String" := f6.wr W8
  have f10 : Fld Z T3.heap a "java/lang/String" "value" "[B" .null := FV.keep K3 nin0
  have f11 : Fld Z h8 a "java/lang/String" "value" "[B" .null := f10.other W8 (Or.inr (slot_ne (Or.inr (hw _ (List.mem_of_getElem? (i := 23) rfl))) (Or.inr (hw _ (List.mem_of_getElem? (i := 24) rfl))) (by decide) (t := (.array .byte)) (t' := .byte) (by decide) (by decide)))
  obtain ⟨T12, h12, X12, e12, W12, st12⟩ := putF X8 hx hZ hown (host := "") (Or.inl (hw _ (List.mem_of_getElem? (i := 27) rfl))) Via.refl e8 f11 f9 (Or.inr ⟨(hw _ (List.mem_of_getElem? (i := 23) rfl)), rfl, hnm⟩) (hw _ (List.mem_of_getElem? (i := 8) rfl)) (ty := (.array .byte)) (by decide) rfl rfl (g := (mkF m 54 #[rv a, rv va, iv (0 : Int32), iv (2 : Int32), .val .null, rv t3] [(.ref t3), (.ref a)])) rfl rfl (hb hby d4_54)
  have Fw12 : Fld Z h12 a "java/lang/String" "value" "[B" (.ref t3) := Fld.same W12 f11
  have N12 := Fr.snoc X12 N8 fa
  refine own_st (T' := T12) (g' := (mkF m 57 #[rv a, rv va, iv (0 : Int32), iv (2 : Int32), .val .null, rv t3] [])) st12 ?_
  clear st12
  have f13 : Keep h0 T3.heap [a] := (Keep.refl h0 [a]).trans K3 all0
  have f14 : Keep h0 h8 [a] := f13.wr W8 (Or.inl (List.mem_of_getElem? (i := 0) rfl))
  have f15 : Keep h0 h12 [a] := f14.wr W12 (Or.inl (List.mem_of_getElem? (i := 0) rfl))
  have f16 : Exa Z h12 a "java/lang/String" := f9.wr W12
  have f17 : Fld Z h12 a "java/lang/String" "coder" "B" (.int (0 : Int32)) := Fw8.other W12 (Or.inr (slot_ne (Or.inr (hw _ (List.mem_of_getElem? (i := 24) rfl))) (Or.inr (hw _ (List.mem_of_getElem? (i := 23) rfl))) (by decide) (t := .byte) (t' := (.array .byte)) (by decide) (by decide)))
  have ne18 : a ≠ t3 := Nat.ne_of_lt (Nat.lt_of_lt_of_le EA.lt xq3_fresh_t)
  have f19 : Arv Z h8 t3 kb3 .byte (2 : Int32) [(.int (c0.toInt8.toInt32)), (.int (c1.toInt8.toInt32))] (.int (0 : Int32)) := fq3_0.other W8 (Ne.symm ne18)
  have f20 : Arv Z h12 t3 kb3 .byte (2 : Int32) [(.int (c0.toInt8.toInt32)), (.int (c1.toInt8.toInt32))] (.int (0 : Int32)) := f19.other W12 (Ne.symm ne18)
  exact own_retV X12 hx hret hlk (hb hby d4_57) (by decide) (by decide) (by rw [e12]; exact ⟨t3, kb3, rfl, N12, f15, f16, f17, Fw12, f20, (Nat.le_trans (Keep.refl h0 [a]).1 xq3_fresh_t)⟩)
theorem ef_ini1_2 (m : MethodId) (x0 : Addr) (x1 : Addr) : entryFrame m #[(.ref x0), (.ref x1)] 2 = mkF m 0 #[rv x0, rv x1] [] := by first | (simp [entryFrame, mkF, argsToLocals, Value.category]; done) | rfl
def Q_ini1_2 (Z : State) (a : Addr) (va : Addr) (kc : ClassId) (cz : Int32) (c0 : Int32) (c1 : Int32) (h0 : Heap) (n0 : Nat) (v : Option Value) (h : Heap) (L : List Loc) : Prop := ∃ (t : Addr) (kb : ClassId), (v = none) ∧ (Fr n0 L) ∧ (Keep h0 h [a]) ∧ (Exa Z h a "java/lang/String") ∧ (Fld Z h a "java/lang/String" "coder" "B" (.int (0 : Int32))) ∧ (Fld Z h a "java/lang/String" "value" "[B" (.ref t)) ∧ (Arv Z h t kb .byte (2 : Int32) [(.int (c0.toInt8.toInt32)), (.int (c1.toInt8.toInt32))] (.int (0 : Int32))) ∧ (h0.size ≤ t)
set_option maxRecDepth 65536 in
set_option maxHeartbeats 40000000 in
theorem rm_ini1_2 (l : Launch) (Z : State) (a0 : Array Value) (hw : ∀ d ∈ tables_1, d.before a0 Z = true) (ws : List Jvm.Cond) (a : Addr) (va : Addr) (kc : ClassId) (cz : Int32) (c0 : Int32) (c1 : Int32) (h0 : Heap) (n0 : Nat) (O0 : Old Z n0 h0) (EA : Exa Z h0 a "java/lang/String") (FV : Fld Z h0 a "java/lang/String" "value" "[B" .null) (FC : Fld Z h0 a "java/lang/String" "coder" "B" (.int (0 : Int32))) (fa : n0 ≤ a) (VA : Arv Z h0 va kc .char (2 : Int32) [(.int c0), (.int c1)] (.int (0 : Int32))) (SC : Sta Z Z.heap "java/lang/String" "COMPACT_STRINGS" "Z" (.int cz)) (hcz : ¬ cz = (0 : Int32)) (hp0 : ¬ (255 : Int32) < c0) (hp1 : ¬ (255 : Int32) < c1) :
    MetFree l own_m1 (head1 (Jvm.Cond.code own_m1 jdk_42_method_3_code 2 none :: ws) ({ frames := 3, cells := 1, slots := 2, locals := 52 } : Room)) (fun ar_ U => ar_ = #[(.ref a), (.ref va)] ∧ Z.Warmed39 U.vm ∧ U.heap = h0) (fun _ _ _ _ _ => True) (fun _ U o U' => ∃ v L, o = .returned v ∧ Q_ini1_2 Z a va kc cz c0 c1 h0 n0 v U'.heap L ∧ FrameEnd U o U' L ({ frames := 3, cells := 1, slots := 2, locals := 52 } : Room).cells ({ frames := 3, cells := 1, slots := 2, locals := 52 } : Room).slots) := by
  refine MetFree.of_bodySF (plainFor_of_name pn_0) hisR ?_
  intro p e s m args below meth c s₁ Bd hml0 hP hK
  obtain ⟨rfl, hZ, hh⟩ := hP
  have hx := Bd.exec
  have hby := Bd.bytes
  have hml : c.maxLocals = 2 := hml0
  have hown : s.vm.findClass "java/lang/String" = some m.cls := findClass_of_methodNamed Bd.named
  have hnm := (name_of_methodNamed Bd.named Bd.method).1
  have X0 : Stand p l e ({ frames := 3, cells := 1, slots := 2, locals := 52 } : Room) s m #[(.ref a), (.ref va)] below meth c s₁ [] 0 0 := Stand.of_body Bd
  have e0 : s₁.heap = h0 := by rw [← hh, Bd.state]; rfl
  have N0 := Fr.nil n0
  have hret := Bd.returns
  have hlk : meth.locks = false := Bd.notSynchronized
  show own_E p e below s ({ frames := 3, cells := 1, slots := 2, locals := 52 } : Room).cells ({ frames := 3, cells := 1, slots := 2, locals := 52 } : Room).slots (Q_ini1_2 Z a va kc cz c0 c1 h0 n0) s₁ (entryFrame m #[(.ref a), (.ref va)] 2)
  rw [ef_ini1_2 m a va]
  refine own_st (T' := s₁) (g' := (mkF m 1 #[rv a, rv va] [(.ref a)])) (fun _ k_ => XS.aloadN X0.here hx rfl (hb hby d3_0) rfl rfl  k_) ?_
  refine own_st (T' := s₁) (g' := (mkF m 2 #[rv a, rv va] [(.ref va), (.ref a)])) (fun _ k_ => XS.aloadN X0.here hx rfl (hb hby d3_1) rfl rfl  k_) ?_
  refine own_st (T' := s₁) (g' := (mkF m 3 #[rv a, rv va] [(.int (0 : Int32)), (.ref va), (.ref a)])) (fun _ k_ => XS.iconst X0.here hx rfl (hb hby d3_2) k_) ?_
  refine own_st (T' := s₁) (g' := (mkF m 4 #[rv a, rv va] [(.ref va), (.int (0 : Int32)), (.ref va), (.ref a)])) (fun _ k_ => XS.aloadN X0.here hx rfl (hb hby d3_3) rfl rfl  k_) ?_
  obtain ⟨cl1, Ar1, -, S1, N1, -, -⟩ := id VA
  refine own_st (T' := s₁) (g' := (mkF m 5 #[rv a, rv va] [(.int (2 : Int32)), (.int (0 : Int32)), (.ref va), (.ref a)])) (fun t_ k_ => X0.arraylength hx (by rw [e0]; exact Ar1.1) (State.isArrayOf_alike hZ.alike Ar1.2.1) (g := (mkF m 4 #[rv a, rv va] [(.ref va), (.int (0 : Int32)), (.ref va), (.ref a)])) rfl rfl (hb hby d3_4) _ (by rw [len_of S1 N1]; exact k_)) ?_
  refine own_st (T' := s₁) (g' := (mkF m 6 #[rv a, rv va] [.null, (.int (2 : Int32)), (.int (0 : Int32)), (.ref va), (.ref a)])) (fun _ k_ => XS.aconstNull X0.here hx rfl (hb hby d3_5) k_) ?_
  obtain ⟨_, T2, L2, X2, hQ2, st2⟩ := own_callI X0 hx (y := own_m0) rfl hown (mvT hZ (hw _ (List.mem_of_getElem? (i := 14) rfl))) (mvT hZ (hw _ (List.mem_of_getElem? (i := 15) rfl))) (mvT hZ (hw _ (List.mem_of_getElem? (i := 17) rfl))) (by decide) (backOf (W := 0) (rm_ini4_2 l Z a0 hw [] a va kc cz c0 c1 h0 n0 O0 EA FV FC fa VA SC hcz hp0 hp1) hZ (hw _ (List.mem_of_getElem? (i := 17) rfl)) (hw _ (List.mem_of_getElem? (i := 9) rfl)) (by decide) (by decide)) (g := (mkF m 6 #[rv a, rv va] [.null, (.int (2 : Int32)), (.int (0 : Int32)), (.ref va), (.ref a)])) rfl (by rw [hml]; rfl) (a := a) (argsL := [(.ref va), (.int (0 : Int32)), (.int (2 : Int32)), .null]) (rest := []) (lenOf pd___CIILjava_lang_Void__V rfl) rfl (by show 2 * 0 + _ ≤ _; exact Nat.le_of_eq rfl) (hb hby d3_6) rfl e0 (by decide) (by decide) (c' := 1) (s' := 2) rfl rfl
  obtain ⟨t2, kb2, rfl, Nq2, K2, fq2_0, fq2_1, fq2_2, fq2_3, xq2_fresh_t⟩ := hQ2
  have N2 := Fr.app N0 Nq2
  refine own_st (T' := T2) (g' := (mkF m 9 #[rv a, rv va] [])) st2 ?_
  clear st2
  have f3 : Keep h0 T2.heap [a] := (Keep.refl h0 [a]).trans K2 (allS (Or.inl (List.mem_of_getElem? (i := 0) rfl)) all0)
  exact own_retV X2 hx hret hlk (hb hby d3_9) (by decide) (by decide) ⟨t2, kb2, rfl, N2, f3, fq2_0, fq2_1, fq2_2, fq2_3, (Nat.le_trans (Keep.refl h0 [a]).1 xq2_fresh_t)⟩
theorem ef_cmp5_3 (m : MethodId) (x0 : Addr) (x1 : Int32) (x2 : Addr) (x3 : Int32) (x4 : Int32) : entryFrame m #[(.ref x0), (.int x1), (.ref x2), (.int x3), (.int x4)] 7 = mkF m 0 #[rv x0, iv x1, rv x2, iv x3, iv x4, .unset, .unset] [] := by first | (simp [entryFrame, mkF, argsToLocals, Value.category]; done) | rfl
def Q_cmp5_3 (Z : State) (va : Addr) (da : Addr) (kc : ClassId) (kd : ClassId) (c0 : Int32) (c1 : Int32) (c2 : Int32) (h0 : Heap) (n0 : Nat) (v : Option Value) (h : Heap) (L : List Loc) : Prop := (v = some (.int (3 : Int32))) ∧ (Fr n0 L) ∧ (Keep h0 h [da]) ∧ (Arv Z h da kd .byte (3 : Int32) [(.int (c0.toInt8.toInt32)), (.int (c1.toInt8.toInt32)), (.int (c2.toInt8.toInt32))] (.int (0 : Int32)))
set_option maxRecDepth 65536 in
set_option maxHeartbeats 40000000 in
theorem rm_cmp5_3 (l : Launch) (Z : State) (a0 : Array Value) (hw : ∀ d ∈ tables_1, d.before a0 Z = true) (ws : List Jvm.Cond) (va : Addr) (da : Addr) (kc : ClassId) (kd : ClassId) (c0 : Int32) (c1 : Int32) (c2 : Int32) (h0 : Heap) (n0 : Nat) (O0 : Old Z n0 h0) (VA : Arv Z h0 va kc .char (3 : Int32) [(.int c0), (.int c1), (.int c2)] (.int (0 : Int32))) (VD : Arv Z h0 da kd .byte (3 : Int32) [(.int (0 : Int32)), (.int (0 : Int32)), (.int (0 : Int32))] (.int (0 : Int32))) (nad : va ≠ da) (fda : n0 ≤ da) (hp0 : ¬ (255 : Int32) < c0) (hp1 : ¬ (255 : Int32) < c1) (hp2 : ¬ (255 : Int32) < c2) :
    MetFree l own_m2 (head1 (Jvm.Cond.code own_m2 jdk_52_method_21_code 7 (some .int) :: ws) ({ frames := 0, cells := 0, slots := 0, locals := 0 } : Room)) (fun ar_ U => ar_ = #[(.ref va), (.int (0 : Int32)), (.ref da), (.int (0 : Int32)), (.int (3 : Int32))] ∧ Z.Warmed39 U.vm ∧ U.heap = h0) (fun _ _ _ _ _ => True) (fun _ U o U' => ∃ v L, o = .returned v ∧ Q_cmp5_3 Z va da kc kd c0 c1 c2 h0 n0 v U'.heap L ∧ FrameEnd U o U' L ({ frames := 0, cells := 0, slots := 0, locals := 0 } : Room).cells ({ frames := 0, cells := 0, slots := 0, locals := 0 } : Room).slots) := by
  refine MetFree.of_bodySF (plainFor_of_name pn_1) hisR ?_
  intro p e s m args below meth c s₁ Bd hml0 hP hK
  obtain ⟨rfl, hZ, hh⟩ := hP
  have hx := Bd.exec
  have hby := Bd.bytes
  have hml : c.maxLocals = 7 := hml0
  have hown : s.vm.findClass "java/lang/StringUTF16" = some m.cls := findClass_of_methodNamed Bd.named
  have hnm := (name_of_methodNamed Bd.named Bd.method).1
  have X0 : Stand p l e ({ frames := 0, cells := 0, slots := 0, locals := 0 } : Room) s m #[(.ref va), (.int (0 : Int32)), (.ref da), (.int (0 : Int32)), (.int (3 : Int32))] below meth c s₁ [] 0 0 := Stand.of_body Bd
  have e0 : s₁.heap = h0 := by rw [← hh, Bd.state]; rfl
  have N0 := Fr.nil n0
  have hret := Bd.returns
  have hlk : meth.locks = false := Bd.notSynchronized
  show own_E p e below s ({ frames := 0, cells := 0, slots := 0, locals := 0 } : Room).cells ({ frames := 0, cells := 0, slots := 0, locals := 0 } : Room).slots (Q_cmp5_3 Z va da kc kd c0 c1 c2 h0 n0) s₁ (entryFrame m #[(.ref va), (.int (0 : Int32)), (.ref da), (.int (0 : Int32)), (.int (3 : Int32))] 7)
  rw [ef_cmp5_3 m va (0 : Int32) da (0 : Int32) (3 : Int32)]
  refine own_st (T' := s₁) (g' := (mkF m 1 #[rv va, iv (0 : Int32), rv da, iv (0 : Int32), iv (3 : Int32), .unset, .unset] [(.int (0 : Int32))])) (fun _ k_ => XS.iconst X0.here hx rfl (hb hby d11_0) k_) ?_
  refine own_st (T' := s₁) (g' := (mkF m 3 #[rv va, iv (0 : Int32), rv da, iv (0 : Int32), iv (3 : Int32), iv (0 : Int32), .unset] [])) (fun _ k_ => XS.istore X0.here hx rfl (hb hby d11_1) rfl (l' := #[rv va, iv (0 : Int32), rv da, iv (0 : Int32), iv (3 : Int32), iv (0 : Int32), .unset]) rfl k_) ?_
  refine own_st (T' := s₁) (g' := (mkF m 5 #[rv va, iv (0 : Int32), rv da, iv (0 : Int32), iv (3 : Int32), iv (0 : Int32), .unset] [(.int (0 : Int32))])) (fun _ k_ => XS.iload X0.here hx rfl (hb hby d11_3) rfl  k_) ?_
  refine own_st (T' := s₁) (g' := (mkF m 7 #[rv va, iv (0 : Int32), rv da, iv (0 : Int32), iv (3 : Int32), iv (0 : Int32), .unset] [(.int (3 : Int32)), (.int (0 : Int32))])) (fun _ k_ => XS.iload X0.here hx rfl (hb hby d11_5) rfl  k_) ?_
  refine own_st (T' := s₁) (g' := (mkF m 10 #[rv va, iv (0 : Int32), rv da, iv (0 : Int32), iv (3 : Int32), iv (0 : Int32), .unset] [])) (fun _ k_ => XS.icmpNo X0.here hx rfl (hb hby d11_7) rfl (tlt (by decide : (0 : Int32) < (3 : Int32))).2.1 k_) ?_
  refine own_st (T' := s₁) (g' := (mkF m 11 #[rv va, iv (0 : Int32), rv da, iv (0 : Int32), iv (3 : Int32), iv (0 : Int32), .unset] [(.ref va)])) (fun _ k_ => XS.aloadN X0.here hx rfl (hb hby d11_10) rfl rfl  k_) ?_
  refine own_st (T' := s₁) (g' := (mkF m 12 #[rv va, iv (0 : Int32), rv da, iv (0 : Int32), iv (3 : Int32), iv (0 : Int32), .unset] [(.int (0 : Int32)), (.ref va)])) (fun _ k_ => XS.iloadN X0.here hx rfl (hb hby d11_11) rfl  k_) ?_
  obtain ⟨cl1, Ar1, q1, S1, N1, H1, G1⟩ := id VA
  have hin1 : ¬ ((0 : Int32) < 0 ∨ cl1.slots.size ≤ ((0 : Int32)).toNatClampNeg) := inb_of S1 ⟨by decide, by decide⟩
  refine own_st (T' := s₁) (g' := (mkF m 13 #[rv va, iv (0 : Int32), rv da, iv (0 : Int32), iv (3 : Int32), iv (0 : Int32), .unset] [(.int c0)])) (X0.caload hx (j := (0 : Int32)) (v := (.int c0)) (by rw [e0]; exact Ar1.1) (State.isArrayOf_alike hZ.alike Ar1.2.1) Ar1.2.2 hin1 (H1.at hin1 rfl) (g := (mkF m 12 #[rv va, iv (0 : Int32), rv da, iv (0 : Int32), iv (3 : Int32), iv (0 : Int32), .unset] [(.int (0 : Int32)), (.ref va)])) rfl rfl (hb hby d11_12)) ?_
  clear hin1 G1 H1 N1 S1 q1 Ar1 cl1
  refine own_st (T' := s₁) (g' := (mkF m 15 #[rv va, iv (0 : Int32), rv da, iv (0 : Int32), iv (3 : Int32), iv (0 : Int32), iv c0] [])) (fun _ k_ => XS.istore X0.here hx rfl (hb hby d11_13) rfl (l' := #[rv va, iv (0 : Int32), rv da, iv (0 : Int32), iv (3 : Int32), iv (0 : Int32), iv c0]) rfl k_) ?_
  refine own_st (T' := s₁) (g' := (mkF m 17 #[rv va, iv (0 : Int32), rv da, iv (0 : Int32), iv (3 : Int32), iv (0 : Int32), iv c0] [(.int c0)])) (fun _ k_ => XS.iload X0.here hx rfl (hb hby d11_15) rfl  k_) ?_
  refine own_st (T' := s₁) (g' := (mkF m 20 #[rv va, iv (0 : Int32), rv da, iv (0 : Int32), iv (3 : Int32), iv (0 : Int32), iv c0] [(.int (255 : Int32)), (.int c0)])) (fun _ k_ => XS.sipush X0.here hx rfl (hb hby d11_17) k_) ?_
  refine own_st (T' := s₁) (g' := (mkF m 26 #[rv va, iv (0 : Int32), rv da, iv (0 : Int32), iv (3 : Int32), iv (0 : Int32), iv c0] [])) (fun _ k_ => XS.icmpYes X0.here hx rfl (pc0 := 20) (pc' := 26) rfl (hb hby d11_20) rfl (flt (hp0 : ¬ ((255 : Int32) < c0))).2.2.2 (by decide) (by decide) k_) ?_
  refine own_st (T' := s₁) (g' := (mkF m 27 #[rv va, iv (0 : Int32), rv da, iv (0 : Int32), iv (3 : Int32), iv (0 : Int32), iv c0] [(.ref da)])) (fun _ k_ => XS.aloadN X0.here hx rfl (hb hby d11_26) rfl rfl  k_) ?_
  refine own_st (T' := s₁) (g' := (mkF m 28 #[rv va, iv (0 : Int32), rv da, iv (0 : Int32), iv (3 : Int32), iv (0 : Int32), iv c0] [(.int (0 : Int32)), (.ref da)])) (fun _ k_ => XS.iloadN X0.here hx rfl (hb hby d11_27) rfl  k_) ?_
  refine own_st (T' := s₁) (g' := (mkF m 30 #[rv va, iv (0 : Int32), rv da, iv (0 : Int32), iv (3 : Int32), iv (0 : Int32), iv c0] [(.int c0), (.int (0 : Int32)), (.ref da)])) (fun _ k_ => XS.iload X0.here hx rfl (hb hby d11_28) rfl  k_) ?_
  refine own_st (T' := s₁) (g' := (mkF m 31 #[rv va, iv (0 : Int32), rv da, iv (0 : Int32), iv (3 : Int32), iv (0 : Int32), iv c0] [(.int (c0.toInt8.toInt32)), (.int (0 : Int32)), (.ref da)])) (fun _ k_ => XS.i2b X0.here hx rfl (hb hby d11_30) rfl k_) ?_
  obtain ⟨cl2, Ar2, q2, S2, N2, H2, G2⟩ := id VD
  have hin2 : ¬ ((0 : Int32) < 0 ∨ cl2.slots.size ≤ ((0 : Int32)).toNatClampNeg) := inb_of S2 ⟨by decide, by decide⟩
  obtain ⟨T3, h3, X3, e3, W3, st3⟩ := stB X0 hx hZ e0 Ar2 (j := (0 : Int32)) hin2 (g := (mkF m 31 #[rv va, iv (0 : Int32), rv da, iv (0 : Int32), iv (3 : Int32), iv (0 : Int32), iv c0] [(.int (c0.toInt8.toInt32)), (.int (0 : Int32)), (.ref da)])) rfl rfl (hb hby d11_31)
  have V3 : Arv Z h3 da kd .byte (3 : Int32) [(.int (nar .byte (c0.toInt8.toInt32))), (.int (0 : Int32)), (.int (0 : Int32))] (.int (0 : Int32)) := Arv.set Ar2 q2 S2 N2 H2 G2 (fits_nar_byte _) W3 0 rfl (Nat.le_of_ble_eq_true rfl)
  have Vn3 : Arv Z h3 da kd .byte (3 : Int32) [(.int (c0.toInt8.toInt32)), (.int (0 : Int32)), (.int (0 : Int32))] (.int (0 : Int32)) := by simpa only [own_bb] using V3
  have Nx3 := Fr.snoc X3 N0 fda
  refine own_st (T' := T3) (g' := (mkF m 32 #[rv va, iv (0 : Int32), rv da, iv (0 : Int32), iv (3 : Int32), iv (0 : Int32), iv c0] [])) st3 ?_
  clear hin2 G2 H2 N2 S2 q2 Ar2 cl2 st3
  refine own_st (T' := T3) (g' := (mkF m 35 #[rv va, iv (1 : Int32), rv da, iv (0 : Int32), iv (3 : Int32), iv (0 : Int32), iv c0] [])) (fun _ k_ => XS.iinc X3.here hx rfl (hb hby d11_32) rfl (l' := #[rv va, iv (1 : Int32), rv da, iv (0 : Int32), iv (3 : Int32), iv (0 : Int32), iv c0]) rfl k_) ?_
  refine own_st (T' := T3) (g' := (mkF m 38 #[rv va, iv (1 : Int32), rv da, iv (1 : Int32), iv (3 : Int32), iv (0 : Int32), iv c0] [])) (fun _ k_ => XS.iinc X3.here hx rfl (hb hby d11_35) rfl (l' := #[rv va, iv (1 : Int32), rv da, iv (1 : Int32), iv (3 : Int32), iv (0 : Int32), iv c0]) rfl k_) ?_
  refine own_st (T' := T3) (g' := (mkF m 41 #[rv va, iv (1 : Int32), rv da, iv (1 : Int32), iv (3 : Int32), iv (1 : Int32), iv c0] [])) (fun _ k_ => XS.iinc X3.here hx rfl (hb hby d11_38) rfl (l' := #[rv va, iv (1 : Int32), rv da, iv (1 : Int32), iv (3 : Int32), iv (1 : Int32), iv c0]) rfl k_) ?_
  refine own_st (T' := T3) (g' := (mkF m 3 #[rv va, iv (1 : Int32), rv da, iv (1 : Int32), iv (3 : Int32), iv (1 : Int32), iv c0] [])) (fun _ k_ => XS.goto X3.here hx rfl (pc0 := 41) (pc' := 3) rfl (hb hby d11_41) (by decide) (by decide) k_) ?_
  refine own_st (T' := T3) (g' := (mkF m 5 #[rv va, iv (1 : Int32), rv da, iv (1 : Int32), iv (3 : Int32), iv (1 : Int32), iv c0] [(.int (1 : Int32))])) (fun _ k_ => XS.iload X3.here hx rfl (hb hby d11_3) rfl  k_) ?_
  refine own_st (T' := T3) (g' := (mkF m 7 #[rv va, iv (1 : Int32), rv da, iv (1 : Int32), iv (3 : Int32), iv (1 : Int32), iv c0] [(.int (3 : Int32)), (.int (1 : Int32))])) (fun _ k_ => XS.iload X3.here hx rfl (hb hby d11_5) rfl  k_) ?_
  refine own_st (T' := T3) (g' := (mkF m 10 #[rv va, iv (1 : Int32), rv da, iv (1 : Int32), iv (3 : Int32), iv (1 : Int32), iv c0] [])) (fun _ k_ => XS.icmpNo X3.here hx rfl (hb hby d11_7) rfl (tlt (by decide : (1 : Int32) < (3 : Int32))).2.1 k_) ?_
  refine own_st (T' := T3) (g' := (mkF m 11 #[rv va, iv (1 : Int32), rv da, iv (1 : Int32), iv (3 : Int32), iv (1 : Int32), iv c0] [(.ref va)])) (fun _ k_ => XS.aloadN X3.here hx rfl (hb hby d11_10) rfl rfl  k_) ?_
  refine own_st (T' := T3) (g' := (mkF m 12 #[rv va, iv (1 : Int32), rv da, iv (1 : Int32), iv (3 : Int32), iv (1 : Int32), iv c0] [(.int (1 : Int32)), (.ref va)])) (fun _ k_ => XS.iloadN X3.here hx rfl (hb hby d11_11) rfl  k_) ?_
  have f4 : Arv Z h3 va kc .char (3 : Int32) [(.int c0), (.int c1), (.int c2)] (.int (0 : Int32)) := VA.other W3 nad
  obtain ⟨cl5, Ar5, q5, S5, N5, H5, G5⟩ := id f4
  have hin5 : ¬ ((1 : Int32) < 0 ∨ cl5.slots.size ≤ ((1 : Int32)).toNatClampNeg) := inb_of S5 ⟨by decide, by decide⟩
  refine own_st (T' := T3) (g' := (mkF m 13 #[rv va, iv (1 : Int32), rv da, iv (1 : Int32), iv (3 : Int32), iv (1 : Int32), iv c0] [(.int c1)])) (X3.caload hx (j := (1 : Int32)) (v := (.int c1)) (by rw [e3]; exact Ar5.1) (State.isArrayOf_alike hZ.alike Ar5.2.1) Ar5.2.2 hin5 (H5.at hin5 rfl) (g := (mkF m 12 #[rv va, iv (1 : Int32), rv da, iv (1 : Int32), iv (3 : Int32), iv (1 : Int32), iv c0] [(.int (1 : Int32)), (.ref va)])) rfl rfl (hb hby d11_12)) ?_
  clear hin5 G5 H5 N5 S5 q5 Ar5 cl5
  refine own_st (T' := T3) (g' := (mkF m 15 #[rv va, iv (1 : Int32), rv da, iv (1 : Int32), iv (3 : Int32), iv (1 : Int32), iv c1] [])) (fun _ k_ => XS.istore X3.here hx rfl (hb hby d11_13) rfl (l' := #[rv va, iv (1 : Int32), rv da, iv (1 : Int32), iv (3 : Int32), iv (1 : Int32), iv c1]) rfl k_) ?_
  refine own_st (T' := T3) (g' := (mkF m 17 #[rv va, iv (1 : Int32), rv da, iv (1 : Int32), iv (3 : Int32), iv (1 : Int32), iv c1] [(.int c1)])) (fun _ k_ => XS.iload X3.here hx rfl (hb hby d11_15) rfl  k_) ?_
  refine own_st (T' := T3) (g' := (mkF m 20 #[rv va, iv (1 : Int32), rv da, iv (1 : Int32), iv (3 : Int32), iv (1 : Int32), iv c1] [(.int (255 : Int32)), (.int c1)])) (fun _ k_ => XS.sipush X3.here hx rfl (hb hby d11_17) k_) ?_
  refine own_st (T' := T3) (g' := (mkF m 26 #[rv va, iv (1 : Int32), rv da, iv (1 : Int32), iv (3 : Int32), iv (1 : Int32), iv c1] [])) (fun _ k_ => XS.icmpYes X3.here hx rfl (pc0 := 20) (pc' := 26) rfl (hb hby d11_20) rfl (flt (hp1 : ¬ ((255 : Int32) < c1))).2.2.2 (by decide) (by decide) k_) ?_
  refine own_st (T' := T3) (g' := (mkF m 27 #[rv va, iv (1 : Int32), rv da, iv (1 : Int32), iv (3 : Int32), iv (1 : Int32), iv c1] [(.ref da)])) (fun _ k_ => XS.aloadN X3.here hx rfl (hb hby d11_26) rfl rfl  k_) ?_
  refine own_st (T' := T3) (g' := (mkF m 28 #[rv va, iv (1 : Int32), rv da, iv (1 : Int32), iv (3 : Int32), iv (1 : Int32), iv c1] [(.int (1 : Int32)), (.ref da)])) (fun _ k_ => XS.iloadN X3.here hx rfl (hb hby d11_27) rfl  k_) ?_
  refine own_st (T' := T3) (g' := (mkF m 30 #[rv va, iv (1 : Int32), rv da, iv (1 : Int32), iv (3 : Int32), iv (1 : Int32), iv c1] [(.int c1), (.int (1 : Int32)), (.ref da)])) (fun _ k_ => XS.iload X3.here hx rfl (hb hby d11_28) rfl  k_) ?_
  refine own_st (T' := T3) (g' := (mkF m 31 #[rv va, iv (1 : Int32), rv da, iv (1 : Int32), iv (3 : Int32), iv (1 : Int32), iv c1] [(.int (c1.toInt8.toInt32)), (.int (1 : Int32)), (.ref da)])) (fun _ k_ => XS.i2b X3.here hx rfl (hb hby d11_30) rfl k_) ?_
  obtain ⟨cl6, Ar6, q6, S6, N6, H6, G6⟩ := id Vn3
  have hin6 : ¬ ((1 : Int32) < 0 ∨ cl6.slots.size ≤ ((1 : Int32)).toNatClampNeg) := inb_of S6 ⟨by decide, by decide⟩
  obtain ⟨T7, h7, X7, e7, W7, st7⟩ := stB X3 hx hZ e3 Ar6 (j := (1 : Int32)) hin6 (g := (mkF m 31 #[rv va, iv (1 : Int32), rv da, iv (1 : Int32), iv (3 : Int32), iv (1 : Int32), iv c1] [(.int (c1.toInt8.toInt32)), (.int (1 : Int32)), (.ref da)])) rfl rfl (hb hby d11_31)
  have V7 : Arv Z h7 da kd .byte (3 : Int32) [(.int (c0.toInt8.toInt32)), (.int (nar .byte (c1.toInt8.toInt32))), (.int (0 : Int32))] (.int (0 : Int32)) := Arv.set Ar6 q6 S6 N6 H6 G6 (fits_nar_byte _) W7 1 rfl (Nat.le_of_ble_eq_true rfl)
  have Vn7 : Arv Z h7 da kd .byte (3 : Int32) [(.int (c0.toInt8.toInt32)), (.int (c1.toInt8.toInt32)), (.int (0 : Int32))] (.int (0 : Int32)) := by simpa only [own_bb] using V7
  have Nx7 := Fr.snoc X7 Nx3 fda
  refine own_st (T' := T7) (g' := (mkF m 32 #[rv va, iv (1 : Int32), rv da, iv (1 : Int32), iv (3 : Int32), iv (1 : Int32), iv c1] [])) st7 ?_
  clear hin6 G6 H6 N6 S6 q6 Ar6 cl6 st7
  refine own_st (T' := T7) (g' := (mkF m 35 #[rv va, iv (2 : Int32), rv da, iv (1 : Int32), iv (3 : Int32), iv (1 : Int32), iv c1] [])) (fun _ k_ => XS.iinc X7.here hx rfl (hb hby d11_32) rfl (l' := #[rv va, iv (2 : Int32), rv da, iv (1 : Int32), iv (3 : Int32), iv (1 : Int32), iv c1]) rfl k_) ?_
  refine own_st (T' := T7) (g' := (mkF m 38 #[rv va, iv (2 : Int32), rv da, iv (2 : Int32), iv (3 : Int32), iv (1 : Int32), iv c1] [])) (fun _ k_ => XS.iinc X7.here hx rfl (hb hby d11_35) rfl (l' := #[rv va, iv (2 : Int32), rv da, iv (2 : Int32), iv (3 : Int32), iv (1 : Int32), iv c1]) rfl k_) ?_
  refine own_st (T' := T7) (g' := (mkF m 41 #[rv va, iv (2 : Int32), rv da, iv (2 : Int32), iv (3 : Int32), iv (2 : Int32), iv c1] [])) (fun _ k_ => XS.iinc X7.here hx rfl (hb hby d11_38) rfl (l' := #[rv va, iv (2 : Int32), rv da, iv (2 : Int32), iv (3 : Int32), iv (2 : Int32), iv c1]) rfl k_) ?_
  refine own_st (T' := T7) (g' := (mkF m 3 #[rv va, iv (2 : Int32), rv da, iv (2 : Int32), iv (3 : Int32), iv (2 : Int32), iv c1] [])) (fun _ k_ => XS.goto X7.here hx rfl (pc0 := 41) (pc' := 3) rfl (hb hby d11_41) (by decide) (by decide) k_) ?_
  refine own_st (T' := T7) (g' := (mkF m 5 #[rv va, iv (2 : Int32), rv da, iv (2 : Int32), iv (3 : Int32), iv (2 : Int32), iv c1] [(.int (2 : Int32))])) (fun _ k_ => XS.iload X7.here hx rfl (hb hby d11_3) rfl  k_) ?_
  refine own_st (T' := T7) (g' := (mkF m 7 #[rv va, iv (2 : Int32), rv da, iv (2 : Int32), iv (3 : Int32), iv (2 : Int32), iv c1] [(.int (3 : Int32)), (.int (2 : Int32))])) (fun _ k_ => XS.iload X7.here hx rfl (hb hby d11_5) rfl  k_) ?_
  refine own_st (T' := T7) (g' := (mkF m 10 #[rv va, iv (2 : Int32), rv da, iv (2 : Int32), iv (3 : Int32), iv (2 : Int32), iv c1] [])) (fun _ k_ => XS.icmpNo X7.here hx rfl (hb hby d11_7) rfl (tlt (by decide : (2 : Int32) < (3 : Int32))).2.1 k_) ?_
  refine own_st (T' := T7) (g' := (mkF m 11 #[rv va, iv (2 : Int32), rv da, iv (2 : Int32), iv (3 : Int32), iv (2 : Int32), iv c1] [(.ref va)])) (fun _ k_ => XS.aloadN X7.here hx rfl (hb hby d11_10) rfl rfl  k_) ?_
  refine own_st (T' := T7) (g' := (mkF m 12 #[rv va, iv (2 : Int32), rv da, iv (2 : Int32), iv (3 : Int32), iv (2 : Int32), iv c1] [(.int (2 : Int32)), (.ref va)])) (fun _ k_ => XS.iloadN X7.here hx rfl (hb hby d11_11) rfl  k_) ?_
  have f8 : Arv Z h7 va kc .char (3 : Int32) [(.int c0), (.int c1), (.int c2)] (.int (0 : Int32)) := f4.other W7 nad
  obtain ⟨cl9, Ar9, q9, S9, N9, H9, G9⟩ := id f8
  have hin9 : ¬ ((2 : Int32) < 0 ∨ cl9.slots.size ≤ ((2 : Int32)).toNatClampNeg) := inb_of S9 ⟨by decide, by decide⟩
  refine own_st (T' := T7) (g' := (mkF m 13 #[rv va, iv (2 : Int32), rv da, iv (2 : Int32), iv (3 : Int32), iv (2 : Int32), iv c1] [(.int c2)])) (X7.caload hx (j := (2 : Int32)) (v := (.int c2)) (by rw [e7]; exact Ar9.1) (State.isArrayOf_alike hZ.alike Ar9.2.1) Ar9.2.2 hin9 (H9.at hin9 rfl) (g := (mkF m 12 #[rv va, iv (2 : Int32), rv da, iv (2 : Int32), iv (3 : Int32), iv (2 : Int32), iv c1] [(.int (2 : Int32)), (.ref va)])) rfl rfl (hb hby d11_12)) ?_
  clear hin9 G9 H9 N9 S9 q9 Ar9 cl9
  refine own_st (T' := T7) (g' := (mkF m 15 #[rv va, iv (2 : Int32), rv da, iv (2 : Int32), iv (3 : Int32), iv (2 : Int32), iv c2] [])) (fun _ k_ => XS.istore X7.here hx rfl (hb hby d11_13) rfl (l' := #[rv va, iv (2 : Int32), rv da, iv (2 : Int32), iv (3 : Int32), iv (2 : Int32), iv c2]) rfl k_) ?_
  refine own_st (T' := T7) (g' := (mkF m 17 #[rv va, iv (2 : Int32), rv da, iv (2 : Int32), iv (3 : Int32), iv (2 : Int32), iv c2] [(.int c2)])) (fun _ k_ => XS.iload X7.here hx rfl (hb hby d11_15) rfl  k_) ?_
  refine own_st (T' := T7) (g' := (mkF m 20 #[rv va, iv (2 : Int32), rv da, iv (2 : Int32), iv (3 : Int32), iv (2 : Int32), iv c2] [(.int (255 : Int32)), (.int c2)])) (fun _ k_ => XS.sipush X7.here hx rfl (hb hby d11_17) k_) ?_
  refine own_st (T' := T7) (g' := (mkF m 26 #[rv va, iv (2 : Int32), rv da, iv (2 : Int32), iv (3 : Int32), iv (2 : Int32), iv c2] [])) (fun _ k_ => XS.icmpYes X7.here hx rfl (pc0 := 20) (pc' := 26) rfl (hb hby d11_20) rfl (flt (hp2 : ¬ ((255 : Int32) < c2))).2.2.2 (by decide) (by decide) k_) ?_
  refine own_st (T' := T7) (g' := (mkF m 27 #[rv va, iv (2 : Int32), rv da, iv (2 : Int32), iv (3 : Int32), iv (2 : Int32), iv c2] [(.ref da)])) (fun _ k_ => XS.aloadN X7.here hx rfl (hb hby d11_26) rfl rfl  k_) ?_
  refine own_st (T' := T7) (g' := (mkF m 28 #[rv va, iv (2 : Int32), rv da, iv (2 : Int32), iv (3 : Int32), iv (2 : Int32), iv c2] [(.int (2 : Int32)), (.ref da)])) (fun _ k_ => XS.iloadN X7.here hx rfl (hb hby d11_27) rfl  k_) ?_
  refine own_st (T' := T7) (g' := (mkF m 30 #[rv va, iv (2 : Int32), rv da, iv (2 : Int32), iv (3 : Int32), iv (2 : Int32), iv c2] [(.int c2), (.int (2 : Int32)), (.ref da)])) (fun _ k_ => XS.iload X7.here hx rfl (hb hby d11_28) rfl  k_) ?_
  refine own_st (T' := T7) (g' := (mkF m 31 #[rv va, iv (2 : Int32), rv da, iv (2 : Int32), iv (3 : Int32), iv (2 : Int32), iv c2] [(.int (c2.toInt8.toInt32)), (.int (2 : Int32)), (.ref da)])) (fun _ k_ => XS.i2b X7.here hx rfl (hb hby d11_30) rfl k_) ?_
  obtain ⟨cl10, Ar10, q10, S10, N10, H10, G10⟩ := id Vn7
  have hin10 : ¬ ((2 : Int32) < 0 ∨ cl10.slots.size ≤ ((2 : Int32)).toNatClampNeg) := inb_of S10 ⟨by decide, by decide⟩
  obtain ⟨T11, h11, X11, e11, W11, st11⟩ := stB X7 hx hZ e7 Ar10 (j := (2 : Int32)) hin10 (g := (mkF m 31 #[rv va, iv (2 : Int32), rv da, iv (2 : Int32), iv (3 : Int32), iv (2 : Int32), iv c2] [(.int (c2.toInt8.toInt32)), (.int (2 : Int32)), (.ref da)])) rfl rfl (hb hby d11_31)
  have V11 : Arv Z h11 da kd .byte (3 : Int32) [(.int (c0.toInt8.toInt32)), (.int (c1.toInt8.toInt32)), (.int (nar .byte (c2.toInt8.toInt32)))] (.int (0 : Int32)) := Arv.set Ar10 q10 S10 N10 H10 G10 (fits_nar_byte _) W11 2 rfl (Nat.le_of_ble_eq_true rfl)
  have Vn11 : Arv Z h11 da kd .byte (3 : Int32) [(.int (c0.toInt8.toInt32)), (.int (c1.toInt8.toInt32)), (.int (c2.toInt8.toInt32))] (.int (0 : Int32)) := by simpa only [own_bb] using V11
  have Nx11 := Fr.snoc X11 Nx7 fda
  refine own_st (T' := T11) (g' := (mkF m 32 #[rv va, iv (2 : Int32), rv da, iv (2 : Int32), iv (3 : Int32), iv (2 : Int32), iv c2] [])) st11 ?_
  clear hin10 G10 H10 N10 S10 q10 Ar10 cl10 st11
  refine own_st (T' := T11) (g' := (mkF m 35 #[rv va, iv (3 : Int32), rv da, iv (2 : Int32), iv (3 : Int32), iv (2 : Int32), iv c2] [])) (fun _ k_ => XS.iinc X11.here hx rfl (hb hby d11_32) rfl (l' := #[rv va, iv (3 : Int32), rv da, iv (2 : Int32), iv (3 : Int32), iv (2 : Int32), iv c2]) rfl k_) ?_
  refine own_st (T' := T11) (g' := (mkF m 38 #[rv va, iv (3 : Int32), rv da, iv (3 : Int32), iv (3 : Int32), iv (2 : Int32), iv c2] [])) (fun _ k_ => XS.iinc X11.here hx rfl (hb hby d11_35) rfl (l' := #[rv va, iv (3 : Int32), rv da, iv (3 : Int32), iv (3 : Int32), iv (2 : Int32), iv c2]) rfl k_) ?_
  refine own_st (T' := T11) (g' := (mkF m 41 #[rv va, iv (3 : Int32), rv da, iv (3 : Int32), iv (3 : Int32), iv (3 : Int32), iv c2] [])) (fun _ k_ => XS.iinc X11.here hx rfl (hb hby d11_38) rfl (l' := #[rv va, iv (3 : Int32), rv da, iv (3 : Int32), iv (3 : Int32), iv (3 : Int32), iv c2]) rfl k_) ?_
  refine own_st (T' := T11) (g' := (mkF m 3 #[rv va, iv (3 : Int32), rv da, iv (3 : Int32), iv (3 : Int32), iv (3 : Int32), iv c2] [])) (fun _ k_ => XS.goto X11.here hx rfl (pc0 := 41) (pc' := 3) rfl (hb hby d11_41) (by decide) (by decide) k_) ?_
  refine own_st (T' := T11) (g' := (mkF m 5 #[rv va, iv (3 : Int32), rv da, iv (3 : Int32), iv (3 : Int32), iv (3 : Int32), iv c2] [(.int (3 : Int32))])) (fun _ k_ => XS.iload X11.here hx rfl (hb hby d11_3) rfl  k_) ?_
  refine own_st (T' := T11) (g' := (mkF m 7 #[rv va, iv (3 : Int32), rv da, iv (3 : Int32), iv (3 : Int32), iv (3 : Int32), iv c2] [(.int (3 : Int32)), (.int (3 : Int32))])) (fun _ k_ => XS.iload X11.here hx rfl (hb hby d11_5) rfl  k_) ?_
  refine own_st (T' := T11) (g' := (mkF m 44 #[rv va, iv (3 : Int32), rv da, iv (3 : Int32), iv (3 : Int32), iv (3 : Int32), iv c2] [])) (fun _ k_ => XS.icmpYes X11.here hx rfl (pc0 := 7) (pc' := 44) rfl (hb hby d11_7) rfl (flt (by decide : ¬ ((3 : Int32) < (3 : Int32)))).2.1 (by decide) (by decide) k_) ?_
  refine own_st (T' := T11) (g' := (mkF m 46 #[rv va, iv (3 : Int32), rv da, iv (3 : Int32), iv (3 : Int32), iv (3 : Int32), iv c2] [(.int (3 : Int32))])) (fun _ k_ => XS.iload X11.here hx rfl (hb hby d11_44) rfl  k_) ?_
  have f12 : Keep h0 h3 [da] := (Keep.refl h0 [da]).wr W3 (Or.inl (List.mem_of_getElem? (i := 0) rfl))
  have f13 : Keep h0 h7 [da] := f12.wr W7 (Or.inl (List.mem_of_getElem? (i := 0) rfl))
  have f14 : Keep h0 h11 [da] := f13.wr W11 (Or.inl (List.mem_of_getElem? (i := 0) rfl))
  exact own_retI X11 hx hret hlk (hb hby d11_46) (by decide) (by decide) (by rw [e11]; exact ⟨rfl, Nx11, f14, Vn11⟩)
theorem ef_cmp3_3 (m : MethodId) (x0 : Addr) (x1 : Int32) (x2 : Int32) : entryFrame m #[(.ref x0), (.int x1), (.int x2)] 6 = mkF m 0 #[rv x0, iv x1, iv x2, .unset, .unset, .unset] [] := by first | (simp [entryFrame, mkF, argsToLocals, Value.category]; done) | rfl
def Q_cmp3_3 (Z : State) (va : Addr) (kc : ClassId) (c0 : Int32) (c1 : Int32) (c2 : Int32) (h0 : Heap) (n0 : Nat) (v : Option Value) (h : Heap) (L : List Loc) : Prop := ∃ (t : Addr) (kb : ClassId), (v = some (.ref t)) ∧ (Fr n0 L) ∧ (Keep h0 h []) ∧ (Arv Z h t kb .byte (3 : Int32) [(.int (c0.toInt8.toInt32)), (.int (c1.toInt8.toInt32)), (.int (c2.toInt8.toInt32))] (.int (0 : Int32))) ∧ (h0.size ≤ t)
set_option maxRecDepth 65536 in
set_option maxHeartbeats 40000000 in
theorem rm_cmp3_3 (l : Launch) (Z : State) (a0 : Array Value) (hw : ∀ d ∈ tables_1, d.before a0 Z = true) (ws : List Jvm.Cond) (va : Addr) (kc : ClassId) (c0 : Int32) (c1 : Int32) (c2 : Int32) (h0 : Heap) (n0 : Nat) (O0 : Old Z n0 h0) (VA : Arv Z h0 va kc .char (3 : Int32) [(.int c0), (.int c1), (.int c2)] (.int (0 : Int32))) (hp0 : ¬ (255 : Int32) < c0) (hp1 : ¬ (255 : Int32) < c1) (hp2 : ¬ (255 : Int32) < c2) :
    MetFree l own_m3 (head1 (Jvm.Cond.code own_m3 jdk_52_method_16_code 6 (some (.array .byte)) :: ws) ({ frames := 1, cells := 1, slots := 3, locals := 18 } : Room)) (fun ar_ U => ar_ = #[(.ref va), (.int (0 : Int32)), (.int (3 : Int32))] ∧ Z.Warmed39 U.vm ∧ U.heap = h0) (fun _ _ _ _ _ => True) (fun _ U o U' => ∃ v L, o = .returned v ∧ Q_cmp3_3 Z va kc c0 c1 c2 h0 n0 v U'.heap L ∧ FrameEnd U o U' L ({ frames := 1, cells := 1, slots := 3, locals := 18 } : Room).cells ({ frames := 1, cells := 1, slots := 3, locals := 18 } : Room).slots) := by
  refine MetFree.of_bodySF (plainFor_of_name pn_1) hisR ?_
  intro p e s m args below meth c s₁ Bd hml0 hP hK
  obtain ⟨rfl, hZ, hh⟩ := hP
  have hx := Bd.exec
  have hby := Bd.bytes
  have hml : c.maxLocals = 6 := hml0
  have hown : s.vm.findClass "java/lang/StringUTF16" = some m.cls := findClass_of_methodNamed Bd.named
  have hnm := (name_of_methodNamed Bd.named Bd.method).1
  have X0 : Stand p l e ({ frames := 1, cells := 1, slots := 3, locals := 18 } : Room) s m #[(.ref va), (.int (0 : Int32)), (.int (3 : Int32))] below meth c s₁ [] 0 0 := Stand.of_body Bd
  have e0 : s₁.heap = h0 := by rw [← hh, Bd.state]; rfl
  have N0 := Fr.nil n0
  have hret := Bd.returns
  have hlk : meth.locks = false := Bd.notSynchronized
  show own_E p e below s ({ frames := 1, cells := 1, slots := 3, locals := 18 } : Room).cells ({ frames := 1, cells := 1, slots := 3, locals := 18 } : Room).slots (Q_cmp3_3 Z va kc c0 c1 c2 h0 n0) s₁ (entryFrame m #[(.ref va), (.int (0 : Int32)), (.int (3 : Int32))] 6)
  rw [ef_cmp3_3 m va (0 : Int32) (3 : Int32)]
  refine own_st (T' := s₁) (g' := (mkF m 1 #[rv va, iv (0 : Int32), iv (3 : Int32), .unset, .unset, .unset] [(.int (3 : Int32))])) (fun _ k_ => XS.iloadN X0.here hx rfl (hb hby d10_0) rfl  k_) ?_
  obtain ⟨T1, h1, k1, X1, e1, E1, A1, st1⟩ := newP X0 hx hZ (hw _ (List.mem_of_getElem? (i := 22) rfl)) e0 (g := (mkF m 1 #[rv va, iv (0 : Int32), iv (3 : Int32), .unset, .unset, .unset] [(.int (3 : Int32))])) rfl (hb hby d10_1) rfl (by decide) (cap := 3) (by decide) (by decide) (by decide) (by decide)
  obtain ⟨b1, g1⟩ : ∃ z, z = h0.size := ⟨_, rfl⟩
  rw [← g1] at A1 st1
  have fr1 : n0 ≤ b1 := Nat.le_trans (own_z O0) (Nat.le_of_eq g1.symm)
  have sz1 : h0.size ≤ b1 := Nat.le_trans (Keep.refl h0 []).1 (Nat.le_of_eq g1.symm)
  have V1 : Arv Z h1 b1 k1 .byte (3 : Int32) [(.int (0 : Int32)), (.int (0 : Int32)), (.int (0 : Int32))] (.int (0 : Int32)) := (Arv.new A1 (by decide)).pad (pad_rep [] (.int (0 : Int32)) 3)
  refine own_st (T' := T1) (g' := (mkF m 3 #[rv va, iv (0 : Int32), iv (3 : Int32), .unset, .unset, .unset] [(.ref b1)])) st1 ?_
  clear st1
  refine own_st (T' := T1) (g' := (mkF m 4 #[rv va, iv (0 : Int32), iv (3 : Int32), rv b1, .unset, .unset] [])) (fun _ k_ => XS.astoreN X1.here hx rfl (hb hby d10_3) rfl rfl (l' := #[rv va, iv (0 : Int32), iv (3 : Int32), rv b1, .unset, .unset]) rfl k_) ?_
  refine own_st (T' := T1) (g' := (mkF m 5 #[rv va, iv (0 : Int32), iv (3 : Int32), rv b1, .unset, .unset] [(.ref va)])) (fun _ k_ => XS.aloadN X1.here hx rfl (hb hby d10_4) rfl rfl  k_) ?_
  refine own_st (T' := T1) (g' := (mkF m 6 #[rv va, iv (0 : Int32), iv (3 : Int32), rv b1, .unset, .unset] [(.int (0 : Int32)), (.ref va)])) (fun _ k_ => XS.iloadN X1.here hx rfl (hb hby d10_5) rfl  k_) ?_
  refine own_st (T' := T1) (g' := (mkF m 7 #[rv va, iv (0 : Int32), iv (3 : Int32), rv b1, .unset, .unset] [(.ref b1), (.int (0 : Int32)), (.ref va)])) (fun _ k_ => XS.aloadN X1.here hx rfl (hb hby d10_6) rfl rfl  k_) ?_
  refine own_st (T' := T1) (g' := (mkF m 8 #[rv va, iv (0 : Int32), iv (3 : Int32), rv b1, .unset, .unset] [(.int (0 : Int32)), (.ref b1), (.int (0 : Int32)), (.ref va)])) (fun _ k_ => XS.iconst X1.here hx rfl (hb hby d10_7) k_) ?_
  refine own_st (T' := T1) (g' := (mkF m 9 #[rv va, iv (0 : Int32), iv (3 : Int32), rv b1, .unset, .unset] [(.int (3 : Int32)), (.int (0 : Int32)), (.ref b1), (.int (0 : Int32)), (.ref va)])) (fun _ k_ => XS.iloadN X1.here hx rfl (hb hby d10_8) rfl  k_) ?_
  have f2 : Arv Z h1 va kc .char (3 : Int32) [(.int c0), (.int c1), (.int c2)] (.int (0 : Int32)) := VA.ext E1
  have ne3 : va ≠ b1 := Nat.ne_of_lt (Nat.lt_of_lt_of_le VA.lt (Nat.le_of_eq g1.symm))
  have f4 : Old Z n0 h1 := O0.ext E1
  obtain ⟨_, T5, L5, X5, hQ5, st5⟩ := own_callS X1 hx (y := own_m2) hown (mvT hZ (hw _ (List.mem_of_getElem? (i := 51) rfl))) (mvT hZ (hw _ (List.mem_of_getElem? (i := 52) rfl))) (mvT hZ (hw _ (List.mem_of_getElem? (i := 49) rfl))) (mvT hZ (hw _ (List.mem_of_getElem? (i := 53) rfl))) (by decide) (backOf (W := 0) (rm_cmp5_3 l Z a0 hw [] va b1 kc k1 c0 c1 c2 h1 n0 f4 f2 V1 ne3 fr1 hp0 hp1 hp2) hZ (hw _ (List.mem_of_getElem? (i := 53) rfl)) (hw _ (List.mem_of_getElem? (i := 49) rfl)) (by decide) (by decide)) (g := (mkF m 9 #[rv va, iv (0 : Int32), iv (3 : Int32), rv b1, .unset, .unset] [(.int (3 : Int32)), (.int (0 : Int32)), (.ref b1), (.int (0 : Int32)), (.ref va)])) rfl (by rw [hml]; rfl) (argsL := [(.ref va), (.int (0 : Int32)), (.ref b1), (.int (0 : Int32)), (.int (3 : Int32))]) (rest := []) (lenOf pd___CI_BII_I rfl) rfl (by show 2 * 0 + _ ≤ _; exact Nat.le_of_eq rfl) (hb hby d10_9) rfl e1 (by decide) (by decide) (c' := 1) (s' := 3) rfl rfl
  obtain ⟨rfl, Nq5, K5, fq5_0⟩ := hQ5
  have N5 := Fr.app N0 Nq5
  refine own_st (T' := T5) (g' := (mkF m 12 #[rv va, iv (0 : Int32), iv (3 : Int32), rv b1, .unset, .unset] [(.int (3 : Int32))])) st5 ?_
  clear st5
  refine own_st (T' := T5) (g' := (mkF m 14 #[rv va, iv (0 : Int32), iv (3 : Int32), rv b1, iv (3 : Int32), .unset] [])) (fun _ k_ => XS.istore X5.here hx rfl (hb hby d10_12) rfl (l' := #[rv va, iv (0 : Int32), iv (3 : Int32), rv b1, iv (3 : Int32), .unset]) rfl k_) ?_
  refine own_st (T' := T5) (g' := (mkF m 16 #[rv va, iv (0 : Int32), iv (3 : Int32), rv b1, iv (3 : Int32), .unset] [(.int (3 : Int32))])) (fun _ k_ => XS.iload X5.here hx rfl (hb hby d10_14) rfl  k_) ?_
  refine own_st (T' := T5) (g' := (mkF m 17 #[rv va, iv (0 : Int32), iv (3 : Int32), rv b1, iv (3 : Int32), .unset] [(.int (3 : Int32)), (.int (3 : Int32))])) (fun _ k_ => XS.iloadN X5.here hx rfl (hb hby d10_16) rfl  k_) ?_
  refine own_st (T' := T5) (g' := (mkF m 57 #[rv va, iv (0 : Int32), iv (3 : Int32), rv b1, iv (3 : Int32), .unset] [])) (fun _ k_ => XS.icmpYes X5.here hx rfl (pc0 := 17) (pc' := 57) rfl (hb hby d10_17) rfl (teq (rfl : (3 : Int32) = (3 : Int32))).1 (by decide) (by decide) k_) ?_
  refine own_st (T' := T5) (g' := (mkF m 58 #[rv va, iv (0 : Int32), iv (3 : Int32), rv b1, iv (3 : Int32), .unset] [(.ref b1)])) (fun _ k_ => XS.aloadN X5.here hx rfl (hb hby d10_57) rfl rfl  k_) ?_
  have f6 : Keep h0 h1 [] := (Keep.refl h0 []).ext E1
  have f7 : Keep h0 T5.heap [] := f6.trans K5 (allS (Or.inr sz1) all0)
  exact own_retA X5 hx hret rfl rfl hlk (hb hby d10_58) (by decide) (by decide) ⟨b1, k1, rfl, N5, f7, fq5_0, sz1⟩
theorem ef_cdr_3 (m : MethodId) (x0 : Addr) (x1 : Int32) : entryFrame m #[(.ref x0), (.int x1)] 2 = mkF m 0 #[rv x0, iv x1] [] := by first | (simp [entryFrame, mkF, argsToLocals, Value.category]; done) | rfl
def Q_cdr_3 (Z : State) (t : Addr) (kb : ClassId) (vs : List Value) (h0 : Heap) (n0 : Nat) (v : Option Value) (h : Heap) (L : List Loc) : Prop := (v = some (.int (0 : Int32))) ∧ (Fr n0 L) ∧ (h = h0)
set_option maxRecDepth 65536 in
set_option maxHeartbeats 40000000 in
theorem rm_cdr_3 (l : Launch) (Z : State) (a0 : Array Value) (hw : ∀ d ∈ tables_1, d.before a0 Z = true) (ws : List Jvm.Cond) (t : Addr) (kb : ClassId) (vs : List Value) (h0 : Heap) (n0 : Nat) (O0 : Old Z n0 h0) (VT : Arv Z h0 t kb .byte (3 : Int32) vs (.int (0 : Int32))) :
    MetFree l own_m4 (head1 (Jvm.Cond.code own_m4 jdk_52_method_15_code 2 (some .byte) :: ws) ({ frames := 0, cells := 0, slots := 0, locals := 0 } : Room)) (fun ar_ U => ar_ = #[(.ref t), (.int (3 : Int32))] ∧ Z.Warmed39 U.vm ∧ U.heap = h0) (fun _ _ _ _ _ => True) (fun _ U o U' => ∃ v L, o = .returned v ∧ Q_cdr_3 Z t kb vs h0 n0 v U'.heap L ∧ FrameEnd U o U' L ({ frames := 0, cells := 0, slots := 0, locals := 0 } : Room).cells ({ frames := 0, cells := 0, slots := 0, locals := 0 } : Room).slots) := by
  refine MetFree.of_bodySF (plainFor_of_name pn_1) hisR ?_
  intro p e s m args below meth c s₁ Bd hml0 hP hK
  obtain ⟨rfl, hZ, hh⟩ := hP
  have hx := Bd.exec
  have hby := Bd.bytes
  have hml : c.maxLocals = 2 := hml0
  have hown : s.vm.findClass "java/lang/StringUTF16" = some m.cls := findClass_of_methodNamed Bd.named
  have hnm := (name_of_methodNamed Bd.named Bd.method).1
  have X0 : Stand p l e ({ frames := 0, cells := 0, slots := 0, locals := 0 } : Room) s m #[(.ref t), (.int (3 : Int32))] below meth c s₁ [] 0 0 := Stand.of_body Bd
  have e0 : s₁.heap = h0 := by rw [← hh, Bd.state]; rfl
  have N0 := Fr.nil n0
  have hret := Bd.returns
  have hlk : meth.locks = false := Bd.notSynchronized
  show own_E p e below s ({ frames := 0, cells := 0, slots := 0, locals := 0 } : Room).cells ({ frames := 0, cells := 0, slots := 0, locals := 0 } : Room).slots (Q_cdr_3 Z t kb vs h0 n0) s₁ (entryFrame m #[(.ref t), (.int (3 : Int32))] 2)
  rw [ef_cdr_3 m t (3 : Int32)]
  refine own_st (T' := s₁) (g' := (mkF m 1 #[rv t, iv (3 : Int32)] [(.int (3 : Int32))])) (fun _ k_ => XS.iloadN X0.here hx rfl (hb hby d12_0) rfl  k_) ?_
  refine own_st (T' := s₁) (g' := (mkF m 2 #[rv t, iv (3 : Int32)] [(.ref t), (.int (3 : Int32))])) (fun _ k_ => XS.aloadN X0.here hx rfl (hb hby d12_1) rfl rfl  k_) ?_
  obtain ⟨cl1, Ar1, -, S1, N1, -, -⟩ := id VT
  refine own_st (T' := s₁) (g' := (mkF m 3 #[rv t, iv (3 : Int32)] [(.int (3 : Int32)), (.int (3 : Int32))])) (fun t_ k_ => X0.arraylength hx (by rw [e0]; exact Ar1.1) (State.isArrayOf_alike hZ.alike Ar1.2.1) (g := (mkF m 2 #[rv t, iv (3 : Int32)] [(.ref t), (.int (3 : Int32))])) rfl rfl (hb hby d12_2) _ (by rw [len_of S1 N1]; exact k_)) ?_
  refine own_st (T' := s₁) (g' := (mkF m 4 #[rv t, iv (3 : Int32)] [(.int (0 : Int32))])) (fun _ k_ => XS.isub X0.here hx rfl (hb hby d12_3) rfl k_) ?_
  refine own_st (T' := s₁) (g' := (mkF m 6 #[rv t, iv (3 : Int32)] [(.int (31 : Int32)), (.int (0 : Int32))])) (fun _ k_ => XS.bipush X0.here hx rfl (hb hby d12_4) k_) ?_
  refine own_st (T' := s₁) (g' := (mkF m 7 #[rv t, iv (3 : Int32)] [(.int (((0 : Int32).toUInt32 >>> ((31 : Int32) &&& 31).toUInt32).toInt32))])) (fun _ k_ => XS.iushr X0.here hx rfl (hb hby d12_6) rfl k_) ?_
  refine own_st (T' := s₁) (g' := (mkF m 8 #[rv t, iv (3 : Int32)] [(.int ((((0 : Int32).toUInt32 >>> ((31 : Int32) &&& 31).toUInt32).toInt32).toInt8.toInt32))])) (fun _ k_ => XS.i2b X0.here hx rfl (hb hby d12_7) rfl k_) ?_
  exact own_retN X0 hx (t := .byte) hret (by simp) hlk (hb hby d12_8) (by decide) (by decide) ⟨(by decide), N0, e0⟩
theorem ef_ini4_3 (m : MethodId) (x0 : Addr) (x1 : Addr) (x2 : Int32) (x3 : Int32) : entryFrame m #[(.ref x0), (.ref x1), (.int x2), (.int x3), .null] 6 = mkF m 0 #[rv x0, rv x1, iv x2, iv x3, .val .null, .unset] [] := by first | (simp [entryFrame, mkF, argsToLocals, Value.category]; done) | rfl
def Q_ini4_3 (Z : State) (a : Addr) (va : Addr) (kc : ClassId) (cz : Int32) (c0 : Int32) (c1 : Int32) (c2 : Int32) (h0 : Heap) (n0 : Nat) (v : Option Value) (h : Heap) (L : List Loc) : Prop := ∃ (t : Addr) (kb : ClassId), (v = none) ∧ (Fr n0 L) ∧ (Keep h0 h [a]) ∧ (Exa Z h a "java/lang/String") ∧ (Fld Z h a "java/lang/String" "coder" "B" (.int (0 : Int32))) ∧ (Fld Z h a "java/lang/String" "value" "[B" (.ref t)) ∧ (Arv Z h t kb .byte (3 : Int32) [(.int (c0.toInt8.toInt32)), (.int (c1.toInt8.toInt32)), (.int (c2.toInt8.toInt32))] (.int (0 : Int32))) ∧ (h0.size ≤ t)
set_option maxRecDepth 65536 in
set_option maxHeartbeats 40000000 in
theorem rm_ini4_3 (l : Launch) (Z : State) (a0 : Array Value) (hw : ∀ d ∈ tables_1, d.before a0 Z = true) (ws : List Jvm.Cond) (a : Addr) (va : Addr) (kc : ClassId) (cz : Int32) (c0 : Int32) (c1 : Int32) (c2 : Int32) (h0 : Heap) (n0 : Nat) (O0 : Old Z n0 h0) (EA : Exa Z h0 a "java/lang/String") (FV : Fld Z h0 a "java/lang/String" "value" "[B" .null) (FC : Fld Z h0 a "java/lang/String" "coder" "B" (.int (0 : Int32))) (fa : n0 ≤ a) (VA : Arv Z h0 va kc .char (3 : Int32) [(.int c0), (.int c1), (.int c2)] (.int (0 : Int32))) (SC : Sta Z Z.heap "java/lang/String" "COMPACT_STRINGS" "Z" (.int cz)) (hcz : ¬ cz = (0 : Int32)) (hp0 : ¬ (255 : Int32) < c0) (hp1 : ¬ (255 : Int32) < c1) (hp2 : ¬ (255 : Int32) < c2) :
    MetFree l own_m0 (head1 (Jvm.Cond.code own_m0 jdk_42_method_149_code 6 none :: ws) ({ frames := 2, cells := 1, slots := 3, locals := 35 } : Room)) (fun ar_ U => ar_ = #[(.ref a), (.ref va), (.int (0 : Int32)), (.int (3 : Int32)), .null] ∧ Z.Warmed39 U.vm ∧ U.heap = h0) (fun _ _ _ _ _ => True) (fun _ U o U' => ∃ v L, o = .returned v ∧ Q_ini4_3 Z a va kc cz c0 c1 c2 h0 n0 v U'.heap L ∧ FrameEnd U o U' L ({ frames := 2, cells := 1, slots := 3, locals := 35 } : Room).cells ({ frames := 2, cells := 1, slots := 3, locals := 35 } : Room).slots) := by
  refine MetFree.of_bodySF (plainFor_of_name pn_0) hisR ?_
  intro p e s m args below meth c s₁ Bd hml0 hP hK
  obtain ⟨rfl, hZ, hh⟩ := hP
  have hx := Bd.exec
  have hby := Bd.bytes
  have hml : c.maxLocals = 6 := hml0
  have hown : s.vm.findClass "java/lang/String" = some m.cls := findClass_of_methodNamed Bd.named
  have hnm := (name_of_methodNamed Bd.named Bd.method).1
  have X0 : Stand p l e ({ frames := 2, cells := 1, slots := 3, locals := 35 } : Room) s m #[(.ref a), (.ref va), (.int (0 : Int32)), (.int (3 : Int32)), .null] below meth c s₁ [] 0 0 := Stand.of_body Bd
  have e0 : s₁.heap = h0 := by rw [← hh, Bd.state]; rfl
  have N0 := Fr.nil n0
  have hret := Bd.returns
  have hlk : meth.locks = false := Bd.notSynchronized
  show own_E p e below s ({ frames := 2, cells := 1, slots := 3, locals := 35 } : Room).cells ({ frames := 2, cells := 1, slots := 3, locals := 35 } : Room).slots (Q_ini4_3 Z a va kc cz c0 c1 c2 h0 n0) s₁ (entryFrame m #[(.ref a), (.ref va), (.int (0 : Int32)), (.int (3 : Int32)), .null] 6)
  rw [ef_ini4_3 m a va (0 : Int32) (3 : Int32)]
  refine own_st (T' := s₁) (g' := (mkF m 1 #[rv a, rv va, iv (0 : Int32), iv (3 : Int32), .val .null, .unset] [(.ref a)])) (fun _ k_ => XS.aloadN X0.here hx rfl (hb hby d4_0) rfl rfl  k_) ?_
  obtain ⟨T1, X1, e1, st1⟩ := initO X0 hx hZ hown (hw _ (List.mem_of_getElem? (i := 18) rfl)) (hw _ (List.mem_of_getElem? (i := 19) rfl)) (hw _ (List.mem_of_getElem? (i := 20) rfl)) e0 (g := (mkF m 1 #[rv a, rv va, iv (0 : Int32), iv (3 : Int32), .val .null, .unset] [(.ref a)])) rfl (by rw [hml]; rfl) rfl (hb hby d4_1) (by decide) (W := 0) (by show 2 * 0 + _ ≤ _; exact Nat.le_of_eq rfl) (by decide)
  refine own_st (T' := T1) (g' := (mkF m 4 #[rv a, rv va, iv (0 : Int32), iv (3 : Int32), .val .null, .unset] [])) st1 ?_
  clear st1
  refine own_st (T' := T1) (g' := (mkF m 5 #[rv a, rv va, iv (0 : Int32), iv (3 : Int32), .val .null, .unset] [(.int (3 : Int32))])) (fun _ k_ => XS.iloadN X1.here hx rfl (hb hby d4_4) rfl  k_) ?_
  refine own_st (T' := T1) (g' := (mkF m 27 #[rv a, rv va, iv (0 : Int32), iv (3 : Int32), .val .null, .unset] [])) (fun _ k_ => XS.ifYes X1.here hx rfl (pc0 := 5) (pc' := 27) rfl (hb hby d4_5) rfl ((if0 _ _).trans (feq (by decide : ¬ ((3 : Int32) = (0 : Int32)))).2) (by decide) (by decide) k_) ?_
  obtain ⟨T2, X2, e2, st2⟩ := getS2 X1 hx hZ hown (host := "") (Or.inl (hw _ (List.mem_of_getElem? (i := 43) rfl))) Via.refl e1 (SC.ext O0.2) (g := (mkF m 27 #[rv a, rv va, iv (0 : Int32), iv (3 : Int32), .val .null, .unset] [])) rfl (hb hby d4_27)
  refine own_st (T' := T2) (g' := (mkF m 30 #[rv a, rv va, iv (0 : Int32), iv (3 : Int32), .val .null, .unset] [(.int cz)])) st2 ?_
  clear st2
  refine own_st (T' := T2) (g' := (mkF m 33 #[rv a, rv va, iv (0 : Int32), iv (3 : Int32), .val .null, .unset] [])) (fun _ k_ => XS.ifNo X2.here hx rfl (hb hby d4_30) rfl ((if0 _ _).trans (feq (hcz : ¬ (cz = (0 : Int32)))).1) k_) ?_
  refine own_st (T' := T2) (g' := (mkF m 34 #[rv a, rv va, iv (0 : Int32), iv (3 : Int32), .val .null, .unset] [(.ref va)])) (fun _ k_ => XS.aloadN X2.here hx rfl (hb hby d4_33) rfl rfl  k_) ?_
  refine own_st (T' := T2) (g' := (mkF m 35 #[rv a, rv va, iv (0 : Int32), iv (3 : Int32), .val .null, .unset] [(.int (0 : Int32)), (.ref va)])) (fun _ k_ => XS.iloadN X2.here hx rfl (hb hby d4_34) rfl  k_) ?_
  refine own_st (T' := T2) (g' := (mkF m 36 #[rv a, rv va, iv (0 : Int32), iv (3 : Int32), .val .null, .unset] [(.int (3 : Int32)), (.int (0 : Int32)), (.ref va)])) (fun _ k_ => XS.iloadN X2.here hx rfl (hb hby d4_35) rfl  k_) ?_
  obtain ⟨_, T3, L3, X3, hQ3, st3⟩ := own_callS X2 hx (y := own_m3) hown (mvT hZ (hw _ (List.mem_of_getElem? (i := 47) rfl))) (mvT hZ (hw _ (List.mem_of_getElem? (i := 48) rfl))) (mvT hZ (hw _ (List.mem_of_getElem? (i := 49) rfl))) (mvT hZ (hw _ (List.mem_of_getElem? (i := 50) rfl))) (by decide) (backOf (W := 0) (rm_cmp3_3 l Z a0 hw [] va kc c0 c1 c2 h0 n0 O0 VA hp0 hp1 hp2) hZ (hw _ (List.mem_of_getElem? (i := 50) rfl)) (hw _ (List.mem_of_getElem? (i := 49) rfl)) (by decide) (by decide)) (g := (mkF m 36 #[rv a, rv va, iv (0 : Int32), iv (3 : Int32), .val .null, .unset] [(.int (3 : Int32)), (.int (0 : Int32)), (.ref va)])) rfl (by rw [hml]; rfl) (argsL := [(.ref va), (.int (0 : Int32)), (.int (3 : Int32))]) (rest := []) (lenOf pd___CII__B rfl) rfl (by show 2 * 0 + _ ≤ _; exact Nat.le_of_eq rfl) (hb hby d4_36) rfl e2 (by decide) (by decide) (c' := 1) (s' := 3) rfl rfl
  obtain ⟨t3, kb3, rfl, Nq3, K3, fq3_0, xq3_fresh_t⟩ := hQ3
  have N3 := Fr.app N0 Nq3
  refine own_st (T' := T3) (g' := (mkF m 39 #[rv a, rv va, iv (0 : Int32), iv (3 : Int32), .val .null, .unset] [(.ref t3)])) st3 ?_
  clear st3
  refine own_st (T' := T3) (g' := (mkF m 41 #[rv a, rv va, iv (0 : Int32), iv (3 : Int32), .val .null, rv t3] [])) (fun _ k_ => XS.astore X3.here hx rfl (hb hby d4_39) rfl rfl (l' := #[rv a, rv va, iv (0 : Int32), iv (3 : Int32), .val .null, rv t3]) rfl k_) ?_
  refine own_st (T' := T3) (g' := (mkF m 42 #[rv a, rv va, iv (0 : Int32), iv (3 : Int32), .val .null, rv t3] [(.ref a)])) (fun _ k_ => XS.aloadN X3.here hx rfl (hb hby d4_41) rfl rfl  k_) ?_
  refine own_st (T' := T3) (g' := (mkF m 44 #[rv a, rv va, iv (0 : Int32), iv (3 : Int32), .val .null, rv t3] [(.ref t3), (.ref a)])) (fun _ k_ => XS.aload X3.here hx rfl (hb hby d4_42) rfl rfl  k_) ?_
  refine own_st (T' := T3) (g' := (mkF m 45 #[rv a, rv va, iv (0 : Int32), iv (3 : Int32), .val .null, rv t3] [(.int (3 : Int32)), (.ref t3), (.ref a)])) (fun _ k_ => XS.iloadN X3.here hx rfl (hb hby d4_44) rfl  k_) ?_
  have f4 : Old Z n0 T3.heap := O0.keep K3 all0
  obtain ⟨_, T5, L5, X5, hQ5, st5⟩ := own_callS X3 hx (y := own_m4) hown (mvT hZ (hw _ (List.mem_of_getElem? (i := 54) rfl))) (mvT hZ (hw _ (List.mem_of_getElem? (i := 55) rfl))) (mvT hZ (hw _ (List.mem_of_getElem? (i := 49) rfl))) (mvT hZ (hw _ (List.mem_of_getElem? (i := 56) rfl))) (by decide) (backOf (W := 1) (rm_cdr_3 l Z a0 hw [] t3 kb3 [(.int (c0.toInt8.toInt32)), (.int (c1.toInt8.toInt32)), (.int (c2.toInt8.toInt32))] T3.heap n0 f4 fq3_0) hZ (hw _ (List.mem_of_getElem? (i := 56) rfl)) (hw _ (List.mem_of_getElem? (i := 49) rfl)) (by decide) (by decide)) (g := (mkF m 45 #[rv a, rv va, iv (0 : Int32), iv (3 : Int32), .val .null, rv t3] [(.int (3 : Int32)), (.ref t3), (.ref a)])) rfl (by rw [hml]; rfl) (argsL := [(.ref t3), (.int (3 : Int32))]) (rest := [(.ref a)]) (lenOf pd___BI_B rfl) rfl (by show 2 * 0 + _ ≤ _; exact Nat.le_of_eq rfl) (hb hby d4_45) rfl rfl (by decide) (by decide) (c' := 1) (s' := 3) rfl rfl
  obtain ⟨rfl, Nq5, eq5⟩ := hQ5
  have N5 := Fr.app N3 Nq5
  refine own_st (T' := T5) (g' := (mkF m 48 #[rv a, rv va, iv (0 : Int32), iv (3 : Int32), .val .null, rv t3] [(.int (0 : Int32)), (.ref a)])) st5 ?_
  clear st5
  have f6 : Exa Z T3.heap a "java/lang/String" := EA.keep K3
  have f7 : Fld Z T3.heap a "java/lang/String" "coder" "B" (.int (0 : Int32)) := FC.keep K3 nin0
  obtain ⟨T8, h8, X8, e8, W8, st8⟩ := putFN X5 hx hZ hown (hw _ (List.mem_of_getElem? (i := 28) rfl)) Via.refl eq5 f7 f6 (Or.inr ⟨(hw _ (List.mem_of_getElem? (i := 24) rfl)), rfl, hnm⟩) (hw _ (List.mem_of_getElem? (i := 8) rfl)) (ty := .byte) (v' := (.int (0 : Int32))) (by decide) rfl (by decide) (g := (mkF m 48 #[rv a, rv va, iv (0 : Int32), iv (3 : Int32), .val .null, rv t3] [(.int (0 : Int32)), (.ref a)])) rfl rfl (hb hby d4_48)
  have Fw8 : Fld Z h8 a "java/lang/String" "coder" "B" (.int (0 : Int32)) := Fld.same W8 f7
  have N8 := Fr.snoc X8 N5 fa
  refine own_st (T' := T8) (g' := (mkF m 51 #[rv a, rv va, iv (0 : Int32), iv (3 : Int32), .val .null, rv t3] [])) st8 ?_
  clear st8
  refine own_st (T' := T8) (g' := (mkF m 52 #[rv a, rv va, iv (0 : Int32), iv (3 : Int32), .val .null, rv t3] [(.ref a)])) (fun _ k_ => XS.aloadN X8.here hx rfl (hb hby d4_51) rfl rfl  k_) ?_
  refine own_st (T' := T8) (g' := (mkF m 54 #[rv a, rv va, iv (0 : Int32), iv (3 : Int32), .val .null, rv t3] [(.ref t3), (.ref a)])) (fun _ k_ => XS.aload X8.here hx rfl (hb hby d4_52) rfl rfl  k_) ?_
  have f9 : Exa Z h8 a "java/lang/String" := f6.wr W8
  have f10 : Fld Z T3.heap a "java/lang/String" "value" "[B" .null := FV.keep K3 nin0
  have f11 : Fld Z h8 a "java/lang/String" "value" "[B" .null := f10.other W8 (Or.inr (slot_ne (Or.inr (hw _ (List.mem_of_getElem? (i := 23) rfl))) (Or.inr (hw _ (List.mem_of_getElem? (i := 24) rfl))) (by decide) (t := (.array .byte)) (t' := .byte) (by decide) (by decide)))
  obtain ⟨T12, h12, X12, e12, W12, st12⟩ := putF X8 hx hZ hown (host := "") (Or.inl (hw _ (List.mem_of_getElem? (i := 27) rfl))) Via.refl e8 f11 f9 (Or.inr ⟨(hw _ (List.mem_of_getElem? (i := 23) rfl)), rfl, hnm⟩) (hw _ (List.mem_of_getElem? (i := 8) rfl)) (ty := (.array .byte)) (by decide) rfl rfl (g := (mkF m 54 #[rv a, rv va, iv (0 : Int32), iv (3 : Int32), .val .null, rv t3] [(.ref t3), (.ref a)])) rfl rfl (hb hby d4_54)
  have Fw12 : Fld Z h12 a "java/lang/String" "value" "[B" (.ref t3) := Fld.same W12 f11
  have N12 := Fr.snoc X12 N8 fa
  refine own_st (T' := T12) (g' := (mkF m 57 #[rv a, rv va, iv (0 : Int32), iv (3 : Int32), .val .null, rv t3] [])) st12 ?_
  clear st12
  have f13 : Keep h0 T3.heap [a] := (Keep.refl h0 [a]).trans K3 all0
  have f14 : Keep h0 h8 [a] := f13.wr W8 (Or.inl (List.mem_of_getElem? (i := 0) rfl))
  have f15 : Keep h0 h12 [a] := f14.wr W12 (Or.inl (List.mem_of_getElem? (i := 0) rfl))
  have f16 : Exa Z h12 a "java/lang/String" := f9.wr W12
  have f17 : Fld Z h12 a "java/lang/String" "coder" "B" (.int (0 : Int32)) := Fw8.other W12 (Or.inr (slot_ne (Or.inr (hw _ (List.mem_of_getElem? (i := 24) rfl))) (Or.inr (hw _ (List.mem_of_getElem? (i := 23) rfl))) (by decide) (t := .byte) (t' := (.array .byte)) (by decide) (by decide)))
  have ne18 : a ≠ t3 := Nat.ne_of_lt (Nat.lt_of_lt_of_le EA.lt xq3_fresh_t)
  have f19 : Arv Z h8 t3 kb3 .byte (3 : Int32) [(.int (c0.toInt8.toInt32)), (.int (c1.toInt8.toInt32)), (.int (c2.toInt8.toInt32))] (.int (0 : Int32)) := fq3_0.other W8 (Ne.symm ne18)
  have f20 : Arv Z h12 t3 kb3 .byte (3 : Int32) [(.int (c0.toInt8.toInt32)), (.int (c1.toInt8.toInt32)), (.int (c2.toInt8.toInt32))] (.int (0 : Int32)) := f19.other W12 (Ne.symm ne18)
  exact own_retV X12 hx hret hlk (hb hby d4_57) (by decide) (by decide) (by rw [e12]; exact ⟨t3, kb3, rfl, N12, f15, f16, f17, Fw12, f20, (Nat.le_trans (Keep.refl h0 [a]).1 xq3_fresh_t)⟩)
theorem ef_ini1_3 (m : MethodId) (x0 : Addr) (x1 : Addr) : entryFrame m #[(.ref x0), (.ref x1)] 2 = mkF m 0 #[rv x0, rv x1] [] := by first | (simp [entryFrame, mkF, argsToLocals, Value.category]; done) | rfl
def Q_ini1_3 (Z : State) (a : Addr) (va : Addr) (kc : ClassId) (cz : Int32) (c0 : Int32) (c1 : Int32) (c2 : Int32) (h0 : Heap) (n0 : Nat) (v : Option Value) (h : Heap) (L : List Loc) : Prop := ∃ (t : Addr) (kb : ClassId), (v = none) ∧ (Fr n0 L) ∧ (Keep h0 h [a]) ∧ (Exa Z h a "java/lang/String") ∧ (Fld Z h a "java/lang/String" "coder" "B" (.int (0 : Int32))) ∧ (Fld Z h a "java/lang/String" "value" "[B" (.ref t)) ∧ (Arv Z h t kb .byte (3 : Int32) [(.int (c0.toInt8.toInt32)), (.int (c1.toInt8.toInt32)), (.int (c2.toInt8.toInt32))] (.int (0 : Int32))) ∧ (h0.size ≤ t)
set_option maxRecDepth 65536 in
set_option maxHeartbeats 40000000 in
theorem rm_ini1_3 (l : Launch) (Z : State) (a0 : Array Value) (hw : ∀ d ∈ tables_1, d.before a0 Z = true) (ws : List Jvm.Cond) (a : Addr) (va : Addr) (kc : ClassId) (cz : Int32) (c0 : Int32) (c1 : Int32) (c2 : Int32) (h0 : Heap) (n0 : Nat) (O0 : Old Z n0 h0) (EA : Exa Z h0 a "java/lang/String") (FV : Fld Z h0 a "java/lang/String" "value" "[B" .null) (FC : Fld Z h0 a "java/lang/String" "coder" "B" (.int (0 : Int32))) (fa : n0 ≤ a) (VA : Arv Z h0 va kc .char (3 : Int32) [(.int c0), (.int c1), (.int c2)] (.int (0 : Int32))) (SC : Sta Z Z.heap "java/lang/String" "COMPACT_STRINGS" "Z" (.int cz)) (hcz : ¬ cz = (0 : Int32)) (hp0 : ¬ (255 : Int32) < c0) (hp1 : ¬ (255 : Int32) < c1) (hp2 : ¬ (255 : Int32) < c2) :
    MetFree l own_m1 (head1 (Jvm.Cond.code own_m1 jdk_42_method_3_code 2 none :: ws) ({ frames := 3, cells := 1, slots := 3, locals := 52 } : Room)) (fun ar_ U => ar_ = #[(.ref a), (.ref va)] ∧ Z.Warmed39 U.vm ∧ U.heap = h0) (fun _ _ _ _ _ => True) (fun _ U o U' => ∃ v L, o = .returned v ∧ Q_ini1_3 Z a va kc cz c0 c1 c2 h0 n0 v U'.heap L ∧ FrameEnd U o U' L ({ frames := 3, cells := 1, slots := 3, locals := 52 } : Room).cells ({ frames := 3, cells := 1, slots := 3, locals := 52 } : Room).slots) := by
  refine MetFree.of_bodySF (plainFor_of_name pn_0) hisR ?_
  intro p e s m args below meth c s₁ Bd hml0 hP hK
  obtain ⟨rfl, hZ, hh⟩ := hP
  have hx := Bd.exec
  have hby := Bd.bytes
  have hml : c.maxLocals = 2 := hml0
  have hown : s.vm.findClass "java/lang/String" = some m.cls := findClass_of_methodNamed Bd.named
  have hnm := (name_of_methodNamed Bd.named Bd.method).1
  have X0 : Stand p l e ({ frames := 3, cells := 1, slots := 3, locals := 52 } : Room) s m #[(.ref a), (.ref va)] below meth c s₁ [] 0 0 := Stand.of_body Bd
  have e0 : s₁.heap = h0 := by rw [← hh, Bd.state]; rfl
  have N0 := Fr.nil n0
  have hret := Bd.returns
  have hlk : meth.locks = false := Bd.notSynchronized
  show own_E p e below s ({ frames := 3, cells := 1, slots := 3, locals := 52 } : Room).cells ({ frames := 3, cells := 1, slots := 3, locals := 52 } : Room).slots (Q_ini1_3 Z a va kc cz c0 c1 c2 h0 n0) s₁ (entryFrame m #[(.ref a), (.ref va)] 2)
  rw [ef_ini1_3 m a va]
  refine own_st (T' := s₁) (g' := (mkF m 1 #[rv a, rv va] [(.ref a)])) (fun _ k_ => XS.aloadN X0.here hx rfl (hb hby d3_0) rfl rfl  k_) ?_
  refine own_st (T' := s₁) (g' := (mkF m 2 #[rv a, rv va] [(.ref va), (.ref a)])) (fun _ k_ => XS.aloadN X0.here hx rfl (hb hby d3_1) rfl rfl  k_) ?_
  refine own_st (T' := s₁) (g' := (mkF m 3 #[rv a, rv va] [(.int (0 : Int32)), (.ref va), (.ref a)])) (fun _ k_ => XS.iconst X0.here hx rfl (hb hby d3_2) k_) ?_
  refine own_st (T' := s₁) (g' := (mkF m 4 #[rv a, rv va] [(.ref va), (.int (0 : Int32)), (.ref va), (.ref a)])) (fun _ k_ => XS.aloadN X0.here hx rfl (hb hby d3_3) rfl rfl  k_) ?_
  obtain ⟨cl1, Ar1, -, S1, N1, -, -⟩ := id VA
  refine own_st (T' := s₁) (g' := (mkF m 5 #[rv a, rv va] [(.int (3 : Int32)), (.int (0 : Int32)), (.ref va), (.ref a)])) (fun t_ k_ => X0.arraylength hx (by rw [e0]; exact Ar1.1) (State.isArrayOf_alike hZ.alike Ar1.2.1) (g := (mkF m 4 #[rv a, rv va] [(.ref va), (.int (0 : Int32)), (.ref va), (.ref a)])) rfl rfl (hb hby d3_4) _ (by rw [len_of S1 N1]; exact k_)) ?_
  refine own_st (T' := s₁) (g' := (mkF m 6 #[rv a, rv va] [.null, (.int (3 : Int32)), (.int (0 : Int32)), (.ref va), (.ref a)])) (fun _ k_ => XS.aconstNull X0.here hx rfl (hb hby d3_5) k_) ?_
  obtain ⟨_, T2, L2, X2, hQ2, st2⟩ := own_callI X0 hx (y := own_m0) rfl hown (mvT hZ (hw _ (List.mem_of_getElem? (i := 14) rfl))) (mvT hZ (hw _ (List.mem_of_getElem? (i := 15) rfl))) (mvT hZ (hw _ (List.mem_of_getElem? (i := 17) rfl))) (by decide) (backOf (W := 0) (rm_ini4_3 l Z a0 hw [] a va kc cz c0 c1 c2 h0 n0 O0 EA FV FC fa VA SC hcz hp0 hp1 hp2) hZ (hw _ (List.mem_of_getElem? (i := 17) rfl)) (hw _ (List.mem_of_getElem? (i := 9) rfl)) (by decide) (by decide)) (g := (mkF m 6 #[rv a, rv va] [.null, (.int (3 : Int32)), (.int (0 : Int32)), (.ref va), (.ref a)])) rfl (by rw [hml]; rfl) (a := a) (argsL := [(.ref va), (.int (0 : Int32)), (.int (3 : Int32)), .null]) (rest := []) (lenOf pd___CIILjava_lang_Void__V rfl) rfl (by show 2 * 0 + _ ≤ _; exact Nat.le_of_eq rfl) (hb hby d3_6) rfl e0 (by decide) (by decide) (c' := 1) (s' := 3) rfl rfl
  obtain ⟨t2, kb2, rfl, Nq2, K2, fq2_0, fq2_1, fq2_2, fq2_3, xq2_fresh_t⟩ := hQ2
  have N2 := Fr.app N0 Nq2
  refine own_st (T' := T2) (g' := (mkF m 9 #[rv a, rv va] [])) st2 ?_
  clear st2
  have f3 : Keep h0 T2.heap [a] := (Keep.refl h0 [a]).trans K2 (allS (Or.inl (List.mem_of_getElem? (i := 0) rfl)) all0)
  exact own_retV X2 hx hret hlk (hb hby d3_9) (by decide) (by decide) ⟨t2, kb2, rfl, N2, f3, fq2_0, fq2_1, fq2_2, fq2_3, (Nat.le_trans (Keep.refl h0 [a]).1 xq2_fresh_t)⟩
theorem ef_cmp5_4 (m : MethodId) (x0 : Addr) (x1 : Int32) (x2 : Addr) (x3 : Int32) (x4 : Int32) : entryFrame m #[(.ref x0), (.int x1), (.ref x2), (.int x3), (.int x4)] 7 = mkF m 0 #[rv x0, iv x1, rv x2, iv x3, iv x4, .unset, .unset] [] := by first | (simp [entryFrame, mkF, argsToLocals, Value.category]; done) | rfl
def Q_cmp5_4 (Z : State) (va : Addr) (da : Addr) (kc : ClassId) (kd : ClassId) (c0 : Int32) (c1 : Int32) (c2 : Int32) (c3 : Int32) (h0 : Heap) (n0 : Nat) (v : Option Value) (h : Heap) (L : List Loc) : Prop := (v = some (.int (4 : Int32))) ∧ (Fr n0 L) ∧ (Keep h0 h [da]) ∧ (Arv Z h da kd .byte (4 : Int32) [(.int (c0.toInt8.toInt32)), (.int (c1.toInt8.toInt32)), (.int (c2.toInt8.toInt32)), (.int (c3.toInt8.toInt32))] (.int (0 : Int32)))
set_option maxRecDepth 65536 in
set_option maxHeartbeats 40000000 in
theorem rm_cmp5_4 (l : Launch) (Z : State) (a0 : Array Value) (hw : ∀ d ∈ tables_1, d.before a0 Z = true) (ws : List Jvm.Cond) (va : Addr) (da : Addr) (kc : ClassId) (kd : ClassId) (c0 : Int32) (c1 : Int32) (c2 : Int32) (c3 : Int32) (h0 : Heap) (n0 : Nat) (O0 : Old Z n0 h0) (VA : Arv Z h0 va kc .char (4 : Int32) [(.int c0), (.int c1), (.int c2), (.int c3)] (.int (0 : Int32))) (VD : Arv Z h0 da kd .byte (4 : Int32) [(.int (0 : Int32)), (.int (0 : Int32)), (.int (0 : Int32)), (.int (0 : Int32))] (.int (0 : Int32))) (nad : va ≠ da) (fda : n0 ≤ da) (hp0 : ¬ (255 : Int32) < c0) (hp1 : ¬ (255 : Int32) < c1) (hp2 : ¬ (255 : Int32) < c2) (hp3 : ¬ (255 : Int32) < c3) :
    MetFree l own_m2 (head1 (Jvm.Cond.code own_m2 jdk_52_method_21_code 7 (some .int) :: ws) ({ frames := 0, cells := 0, slots := 0, locals := 0 } : Room)) (fun ar_ U => ar_ = #[(.ref va), (.int (0 : Int32)), (.ref da), (.int (0 : Int32)), (.int (4 : Int32))] ∧ Z.Warmed39 U.vm ∧ U.heap = h0) (fun _ _ _ _ _ => True) (fun _ U o U' => ∃ v L, o = .returned v ∧ Q_cmp5_4 Z va da kc kd c0 c1 c2 c3 h0 n0 v U'.heap L ∧ FrameEnd U o U' L ({ frames := 0, cells := 0, slots := 0, locals := 0 } : Room).cells ({ frames := 0, cells := 0, slots := 0, locals := 0 } : Room).slots) := by
  refine MetFree.of_bodySF (plainFor_of_name pn_1) hisR ?_
  intro p e s m args below meth c s₁ Bd hml0 hP hK
  obtain ⟨rfl, hZ, hh⟩ := hP
  have hx := Bd.exec
  have hby := Bd.bytes
  have hml : c.maxLocals = 7 := hml0
  have hown : s.vm.findClass "java/lang/StringUTF16" = some m.cls := findClass_of_methodNamed Bd.named
  have hnm := (name_of_methodNamed Bd.named Bd.method).1
  have X0 : Stand p l e ({ frames := 0, cells := 0, slots := 0, locals := 0 } : Room) s m #[(.ref va), (.int (0 : Int32)), (.ref da), (.int (0 : Int32)), (.int (4 : Int32))] below meth c s₁ [] 0 0 := Stand.of_body Bd
  have e0 : s₁.heap = h0 := by rw [← hh, Bd.state]; rfl
  have N0 := Fr.nil n0
  have hret := Bd.returns
  have hlk : meth.locks = false := Bd.notSynchronized
  show own_E p e below s ({ frames := 0, cells := 0, slots := 0, locals := 0 } : Room).cells ({ frames := 0, cells := 0, slots := 0, locals := 0 } : Room).slots (Q_cmp5_4 Z va da kc kd c0 c1 c2 c3 h0 n0) s₁ (entryFrame m #[(.ref va), (.int (0 : Int32)), (.ref da), (.int (0 : Int32)), (.int (4 : Int32))] 7)
  rw [ef_cmp5_4 m va (0 : Int32) da (0 : Int32) (4 : Int32)]
  refine own_st (T' := s₁) (g' := (mkF m 1 #[rv va, iv (0 : Int32), rv da, iv (0 : Int32), iv (4 : Int32), .unset, .unset] [(.int (0 : Int32))])) (fun _ k_ => XS.iconst X0.here hx rfl (hb hby d11_0) k_) ?_
  refine own_st (T' := s₁) (g' := (mkF m 3 #[rv va, iv (0 : Int32), rv da, iv (0 : Int32), iv (4 : Int32), iv (0 : Int32), .unset] [])) (fun _ k_ => XS.istore X0.here hx rfl (hb hby d11_1) rfl (l' := #[rv va, iv (0 : Int32), rv da, iv (0 : Int32), iv (4 : Int32), iv (0 : Int32), .unset]) rfl k_) ?_
  refine own_st (T' := s₁) (g' := (mkF m 5 #[rv va, iv (0 : Int32), rv da, iv (0 : Int32), iv (4 : Int32), iv (0 : Int32), .unset] [(.int (0 : Int32))])) (fun _ k_ => XS.iload X0.here hx rfl (hb hby d11_3) rfl  k_) ?_
  refine own_st (T' := s₁) (g' := (mkF m 7 #[rv va, iv (0 : Int32), rv da, iv (0 : Int32), iv (4 : Int32), iv (0 : Int32), .unset] [(.int (4 : Int32)), (.int (0 : Int32))])) (fun _ k_ => XS.iload X0.here hx rfl (hb hby d11_5) rfl  k_) ?_
  refine own_st (T' := s₁) (g' := (mkF m 10 #[rv va, iv (0 : Int32), rv da, iv (0 : Int32), iv (4 : Int32), iv (0 : Int32), .unset] [])) (fun _ k_ => XS.icmpNo X0.here hx rfl (hb hby d11_7) rfl (tlt (by decide : (0 : Int32) < (4 : Int32))).2.1 k_) ?_
  refine own_st (T' := s₁) (g' := (mkF m 11 #[rv va, iv (0 : Int32), rv da, iv (0 : Int32), iv (4 : Int32), iv (0 : Int32), .unset] [(.ref va)])) (fun _ k_ => XS.aloadN X0.here hx rfl (hb hby d11_10) rfl rfl  k_) ?_
  refine own_st (T' := s₁) (g' := (mkF m 12 #[rv va, iv (0 : Int32), rv da, iv (0 : Int32), iv (4 : Int32), iv (0 : Int32), .unset] [(.int (0 : Int32)), (.ref va)])) (fun _ k_ => XS.iloadN X0.here hx rfl (hb hby d11_11) rfl  k_) ?_
  obtain ⟨cl1, Ar1, q1, S1, N1, H1, G1⟩ := id VA
  have hin1 : ¬ ((0 : Int32) < 0 ∨ cl1.slots.size ≤ ((0 : Int32)).toNatClampNeg) := inb_of S1 ⟨by decide, by decide⟩
  refine own_st (T' := s₁) (g' := (mkF m 13 #[rv va, iv (0 : Int32), rv da, iv (0 : Int32), iv (4 : Int32), iv (0 : Int32), .unset] [(.int c0)])) (X0.caload hx (j := (0 : Int32)) (v := (.int c0)) (by rw [e0]; exact Ar1.1) (State.isArrayOf_alike hZ.alike Ar1.2.1) Ar1.2.2 hin1 (H1.at hin1 rfl) (g := (mkF m 12 #[rv va, iv (0 : Int32), rv da, iv (0 : Int32), iv (4 : Int32), iv (0 : Int32), .unset] [(.int (0 : Int32)), (.ref va)])) rfl rfl (hb hby d11_12)) ?_
  clear hin1 G1 H1 N1 S1 q1 Ar1 cl1
  refine own_st (T' := s₁) (g' := (mkF m 15 #[rv va, iv (0 : Int32), rv da, iv (0 : Int32), iv (4 : Int32), iv (0 : Int32), iv c0] [])) (fun _ k_ => XS.istore X0.here hx rfl (hb hby d11_13) rfl (l' := #[rv va, iv (0 : Int32), rv da, iv (0 : Int32), iv (4 : Int32), iv (0 : Int32), iv c0]) rfl k_) ?_
  refine own_st (T' := s₁) (g' := (mkF m 17 #[rv va, iv (0 : Int32), rv da, iv (0 : Int32), iv (4 : Int32), iv (0 : Int32), iv c0] [(.int c0)])) (fun _ k_ => XS.iload X0.here hx rfl (hb hby d11_15) rfl  k_) ?_
  refine own_st (T' := s₁) (g' := (mkF m 20 #[rv va, iv (0 : Int32), rv da, iv (0 : Int32), iv (4 : Int32), iv (0 : Int32), iv c0] [(.int (255 : Int32)), (.int c0)])) (fun _ k_ => XS.sipush X0.here hx rfl (hb hby d11_17) k_) ?_
  refine own_st (T' := s₁) (g' := (mkF m 26 #[rv va, iv (0 : Int32), rv da, iv (0 : Int32), iv (4 : Int32), iv (0 : Int32), iv c0] [])) (fun _ k_ => XS.icmpYes X0.here hx rfl (pc0 := 20) (pc' := 26) rfl (hb hby d11_20) rfl (flt (hp0 : ¬ ((255 : Int32) < c0))).2.2.2 (by decide) (by decide) k_) ?_
  refine own_st (T' := s₁) (g' := (mkF m 27 #[rv va, iv (0 : Int32), rv da, iv (0 : Int32), iv (4 : Int32), iv (0 : Int32), iv c0] [(.ref da)])) (fun _ k_ => XS.aloadN X0.here hx rfl (hb hby d11_26) rfl rfl  k_) ?_
  refine own_st (T' := s₁) (g' := (mkF m 28 #[rv va, iv (0 : Int32), rv da, iv (0 : Int32), iv (4 : Int32), iv (0 : Int32), iv c0] [(.int (0 : Int32)), (.ref da)])) (fun _ k_ => XS.iloadN X0.here hx rfl (hb hby d11_27) rfl  k_) ?_
  refine own_st (T' := s₁) (g' := (mkF m 30 #[rv va, iv (0 : Int32), rv da, iv (0 : Int32), iv (4 : Int32), iv (0 : Int32), iv c0] [(.int c0), (.int (0 : Int32)), (.ref da)])) (fun _ k_ => XS.iload X0.here hx rfl (hb hby d11_28) rfl  k_) ?_
  refine own_st (T' := s₁) (g' := (mkF m 31 #[rv va, iv (0 : Int32), rv da, iv (0 : Int32), iv (4 : Int32), iv (0 : Int32), iv c0] [(.int (c0.toInt8.toInt32)), (.int (0 : Int32)), (.ref da)])) (fun _ k_ => XS.i2b X0.here hx rfl (hb hby d11_30) rfl k_) ?_
  obtain ⟨cl2, Ar2, q2, S2, N2, H2, G2⟩ := id VD
  have hin2 : ¬ ((0 : Int32) < 0 ∨ cl2.slots.size ≤ ((0 : Int32)).toNatClampNeg) := inb_of S2 ⟨by decide, by decide⟩
  obtain ⟨T3, h3, X3, e3, W3, st3⟩ := stB X0 hx hZ e0 Ar2 (j := (0 : Int32)) hin2 (g := (mkF m 31 #[rv va, iv (0 : Int32), rv da, iv (0 : Int32), iv (4 : Int32), iv (0 : Int32), iv c0] [(.int (c0.toInt8.toInt32)), (.int (0 : Int32)), (.ref da)])) rfl rfl (hb hby d11_31)
  have V3 : Arv Z h3 da kd .byte (4 : Int32) [(.int (nar .byte (c0.toInt8.toInt32))), (.int (0 : Int32)), (.int (0 : Int32)), (.int (0 : Int32))] (.int (0 : Int32)) := Arv.set Ar2 q2 S2 N2 H2 G2 (fits_nar_byte _) W3 0 rfl (Nat.le_of_ble_eq_true rfl)
  have Vn3 : Arv Z h3 da kd .byte (4 : Int32) [(.int (c0.toInt8.toInt32)), (.int (0 : Int32)), (.int (0 : Int32)), (.int (0 : Int32))] (.int (0 : Int32)) := by simpa only [own_bb] using V3
  have Nx3 := Fr.snoc X3 N0 fda
  refine own_st (T' := T3) (g' := (mkF m 32 #[rv va, iv (0 : Int32), rv da, iv (0 : Int32), iv (4 : Int32), iv (0 : Int32), iv c0] [])) st3 ?_
  clear hin2 G2 H2 N2 S2 q2 Ar2 cl2 st3
  refine own_st (T' := T3) (g' := (mkF m 35 #[rv va, iv (1 : Int32), rv da, iv (0 : Int32), iv (4 : Int32), iv (0 : Int32), iv c0] [])) (fun _ k_ => XS.iinc X3.here hx rfl (hb hby d11_32) rfl (l' := #[rv va, iv (1 : Int32), rv da, iv (0 : Int32), iv (4 : Int32), iv (0 : Int32), iv c0]) rfl k_) ?_
  refine own_st (T' := T3) (g' := (mkF m 38 #[rv va, iv (1 : Int32), rv da, iv (1 : Int32), iv (4 : Int32), iv (0 : Int32), iv c0] [])) (fun _ k_ => XS.iinc X3.here hx rfl (hb hby d11_35) rfl (l' := #[rv va, iv (1 : Int32), rv da, iv (1 : Int32), iv (4 : Int32), iv (0 : Int32), iv c0]) rfl k_) ?_
  refine own_st (T' := T3) (g' := (mkF m 41 #[rv va, iv (1 : Int32), rv da, iv (1 : Int32), iv (4 : Int32), iv (1 : Int32), iv c0] [])) (fun _ k_ => XS.iinc X3.here hx rfl (hb hby d11_38) rfl (l' := #[rv va, iv (1 : Int32), rv da, iv (1 : Int32), iv (4 : Int32), iv (1 : Int32), iv c0]) rfl k_) ?_
  refine own_st (T' := T3) (g' := (mkF m 3 #[rv va, iv (1 : Int32), rv da, iv (1 : Int32), iv (4 : Int32), iv (1 : Int32), iv c0] [])) (fun _ k_ => XS.goto X3.here hx rfl (pc0 := 41) (pc' := 3) rfl (hb hby d11_41) (by decide) (by decide) k_) ?_
  refine own_st (T' := T3) (g' := (mkF m 5 #[rv va, iv (1 : Int32), rv da, iv (1 : Int32), iv (4 : Int32), iv (1 : Int32), iv c0] [(.int (1 : Int32))])) (fun _ k_ => XS.iload X3.here hx rfl (hb hby d11_3) rfl  k_) ?_
  refine own_st (T' := T3) (g' := (mkF m 7 #[rv va, iv (1 : Int32), rv da, iv (1 : Int32), iv (4 : Int32), iv (1 : Int32), iv c0] [(.int (4 : Int32)), (.int (1 : Int32))])) (fun _ k_ => XS.iload X3.here hx rfl (hb hby d11_5) rfl  k_) ?_
  refine own_st (T' := T3) (g' := (mkF m 10 #[rv va, iv (1 : Int32), rv da, iv (1 : Int32), iv (4 : Int32), iv (1 : Int32), iv c0] [])) (fun _ k_ => XS.icmpNo X3.here hx rfl (hb hby d11_7) rfl (tlt (by decide : (1 : Int32) < (4 : Int32))).2.1 k_) ?_
  refine own_st (T' := T3) (g' := (mkF m 11 #[rv va, iv (1 : Int32), rv da, iv (1 : Int32), iv (4 : Int32), iv (1 : Int32), iv c0] [(.ref va)])) (fun _ k_ => XS.aloadN X3.here hx rfl (hb hby d11_10) rfl rfl  k_) ?_
  refine own_st (T' := T3) (g' := (mkF m 12 #[rv va, iv (1 : Int32), rv da, iv (1 : Int32), iv (4 : Int32), iv (1 : Int32), iv c0] [(.int (1 : Int32)), (.ref va)])) (fun _ k_ => XS.iloadN X3.here hx rfl (hb hby d11_11) rfl  k_) ?_
  have f4 : Arv Z h3 va kc .char (4 : Int32) [(.int c0), (.int c1), (.int c2), (.int c3)] (.int (0 : Int32)) := VA.other W3 nad
  obtain ⟨cl5, Ar5, q5, S5, N5, H5, G5⟩ := id f4
  have hin5 : ¬ ((1 : Int32) < 0 ∨ cl5.slots.size ≤ ((1 : Int32)).toNatClampNeg) := inb_of S5 ⟨by decide, by decide⟩
  refine own_st (T' := T3) (g' := (mkF m 13 #[rv va, iv (1 : Int32), rv da, iv (1 : Int32), iv (4 : Int32), iv (1 : Int32), iv c0] [(.int c1)])) (X3.caload hx (j := (1 : Int32)) (v := (.int c1)) (by rw [e3]; exact Ar5.1) (State.isArrayOf_alike hZ.alike Ar5.2.1) Ar5.2.2 hin5 (H5.at hin5 rfl) (g := (mkF m 12 #[rv va, iv (1 : Int32), rv da, iv (1 : Int32), iv (4 : Int32), iv (1 : Int32), iv c0] [(.int (1 : Int32)), (.ref va)])) rfl rfl (hb hby d11_12)) ?_
  clear hin5 G5 H5 N5 S5 q5 Ar5 cl5
  refine own_st (T' := T3) (g' := (mkF m 15 #[rv va, iv (1 : Int32), rv da, iv (1 : Int32), iv (4 : Int32), iv (1 : Int32), iv c1] [])) (fun _ k_ => XS.istore X3.here hx rfl (hb hby d11_13) rfl (l' := #[rv va, iv (1 : Int32), rv da, iv (1 : Int32), iv (4 : Int32), iv (1 : Int32), iv c1]) rfl k_) ?_
  refine own_st (T' := T3) (g' := (mkF m 17 #[rv va, iv (1 : Int32), rv da, iv (1 : Int32), iv (4 : Int32), iv (1 : Int32), iv c1] [(.int c1)])) (fun _ k_ => XS.iload X3.here hx rfl (hb hby d11_15) rfl  k_) ?_
  refine own_st (T' := T3) (g' := (mkF m 20 #[rv va, iv (1 : Int32), rv da, iv (1 : Int32), iv (4 : Int32), iv (1 : Int32), iv c1] [(.int (255 : Int32)), (.int c1)])) (fun _ k_ => XS.sipush X3.here hx rfl (hb hby d11_17) k_) ?_
  refine own_st (T' := T3) (g' := (mkF m 26 #[rv va, iv (1 : Int32), rv da, iv (1 : Int32), iv (4 : Int32), iv (1 : Int32), iv c1] [])) (fun _ k_ => XS.icmpYes X3.here hx rfl (pc0 := 20) (pc' := 26) rfl (hb hby d11_20) rfl (flt (hp1 : ¬ ((255 : Int32) < c1))).2.2.2 (by decide) (by decide) k_) ?_
  refine own_st (T' := T3) (g' := (mkF m 27 #[rv va, iv (1 : Int32), rv da, iv (1 : Int32), iv (4 : Int32), iv (1 : Int32), iv c1] [(.ref da)])) (fun _ k_ => XS.aloadN X3.here hx rfl (hb hby d11_26) rfl rfl  k_) ?_
  refine own_st (T' := T3) (g' := (mkF m 28 #[rv va, iv (1 : Int32), rv da, iv (1 : Int32), iv (4 : Int32), iv (1 : Int32), iv c1] [(.int (1 : Int32)), (.ref da)])) (fun _ k_ => XS.iloadN X3.here hx rfl (hb hby d11_27) rfl  k_) ?_
  refine own_st (T' := T3) (g' := (mkF m 30 #[rv va, iv (1 : Int32), rv da, iv (1 : Int32), iv (4 : Int32), iv (1 : Int32), iv c1] [(.int c1), (.int (1 : Int32)), (.ref da)])) (fun _ k_ => XS.iload X3.here hx rfl (hb hby d11_28) rfl  k_) ?_
  refine own_st (T' := T3) (g' := (mkF m 31 #[rv va, iv (1 : Int32), rv da, iv (1 : Int32), iv (4 : Int32), iv (1 : Int32), iv c1] [(.int (c1.toInt8.toInt32)), (.int (1 : Int32)), (.ref da)])) (fun _ k_ => XS.i2b X3.here hx rfl (hb hby d11_30) rfl k_) ?_
  obtain ⟨cl6, Ar6, q6, S6, N6, H6, G6⟩ := id Vn3
  have hin6 : ¬ ((1 : Int32) < 0 ∨ cl6.slots.size ≤ ((1 : Int32)).toNatClampNeg) := inb_of S6 ⟨by decide, by decide⟩
  obtain ⟨T7, h7, X7, e7, W7, st7⟩ := stB X3 hx hZ e3 Ar6 (j := (1 : Int32)) hin6 (g := (mkF m 31 #[rv va, iv (1 : Int32), rv da, iv (1 : Int32), iv (4 : Int32), iv (1 : Int32), iv c1] [(.int (c1.toInt8.toInt32)), (.int (1 : Int32)), (.ref da)])) rfl rfl (hb hby d11_31)
  have V7 : Arv Z h7 da kd .byte (4 : Int32) [(.int (c0.toInt8.toInt32)), (.int (nar .byte (c1.toInt8.toInt32))), (.int (0 : Int32)), (.int (0 : Int32))] (.int (0 : Int32)) := Arv.set Ar6 q6 S6 N6 H6 G6 (fits_nar_byte _) W7 1 rfl (Nat.le_of_ble_eq_true rfl)
  have Vn7 : Arv Z h7 da kd .byte (4 : Int32) [(.int (c0.toInt8.toInt32)), (.int (c1.toInt8.toInt32)), (.int (0 : Int32)), (.int (0 : Int32))] (.int (0 : Int32)) := by simpa only [own_bb] using V7
  have Nx7 := Fr.snoc X7 Nx3 fda
  refine own_st (T' := T7) (g' := (mkF m 32 #[rv va, iv (1 : Int32), rv da, iv (1 : Int32), iv (4 : Int32), iv (1 : Int32), iv c1] [])) st7 ?_
  clear hin6 G6 H6 N6 S6 q6 Ar6 cl6 st7
  refine own_st (T' := T7) (g' := (mkF m 35 #[rv va, iv (2 : Int32), rv da, iv (1 : Int32), iv (4 : Int32), iv (1 : Int32), iv c1] [])) (fun _ k_ => XS.iinc X7.here hx rfl (hb hby d11_32) rfl (l' := #[rv va, iv (2 : Int32), rv da, iv (1 : Int32), iv (4 : Int32), iv (1 : Int32), iv c1]) rfl k_) ?_
  refine own_st (T' := T7) (g' := (mkF m 38 #[rv va, iv (2 : Int32), rv da, iv (2 : Int32), iv (4 : Int32), iv (1 : Int32), iv c1] [])) (fun _ k_ => XS.iinc X7.here hx rfl (hb hby d11_35) rfl (l' := #[rv va, iv (2 : Int32), rv da, iv (2 : Int32), iv (4 : Int32), iv (1 : Int32), iv c1]) rfl k_) ?_
  refine own_st (T' := T7) (g' := (mkF m 41 #[rv va, iv (2 : Int32), rv da, iv (2 : Int32), iv (4 : Int32), iv (2 : Int32), iv c1] [])) (fun _ k_ => XS.iinc X7.here hx rfl (hb hby d11_38) rfl (l' := #[rv va, iv (2 : Int32), rv da, iv (2 : Int32), iv (4 : Int32), iv (2 : Int32), iv c1]) rfl k_) ?_
  refine own_st (T' := T7) (g' := (mkF m 3 #[rv va, iv (2 : Int32), rv da, iv (2 : Int32), iv (4 : Int32), iv (2 : Int32), iv c1] [])) (fun _ k_ => XS.goto X7.here hx rfl (pc0 := 41) (pc' := 3) rfl (hb hby d11_41) (by decide) (by decide) k_) ?_
  refine own_st (T' := T7) (g' := (mkF m 5 #[rv va, iv (2 : Int32), rv da, iv (2 : Int32), iv (4 : Int32), iv (2 : Int32), iv c1] [(.int (2 : Int32))])) (fun _ k_ => XS.iload X7.here hx rfl (hb hby d11_3) rfl  k_) ?_
  refine own_st (T' := T7) (g' := (mkF m 7 #[rv va, iv (2 : Int32), rv da, iv (2 : Int32), iv (4 : Int32), iv (2 : Int32), iv c1] [(.int (4 : Int32)), (.int (2 : Int32))])) (fun _ k_ => XS.iload X7.here hx rfl (hb hby d11_5) rfl  k_) ?_
  refine own_st (T' := T7) (g' := (mkF m 10 #[rv va, iv (2 : Int32), rv da, iv (2 : Int32), iv (4 : Int32), iv (2 : Int32), iv c1] [])) (fun _ k_ => XS.icmpNo X7.here hx rfl (hb hby d11_7) rfl (tlt (by decide : (2 : Int32) < (4 : Int32))).2.1 k_) ?_
  refine own_st (T' := T7) (g' := (mkF m 11 #[rv va, iv (2 : Int32), rv da, iv (2 : Int32), iv (4 : Int32), iv (2 : Int32), iv c1] [(.ref va)])) (fun _ k_ => XS.aloadN X7.here hx rfl (hb hby d11_10) rfl rfl  k_) ?_
  refine own_st (T' := T7) (g' := (mkF m 12 #[rv va, iv (2 : Int32), rv da, iv (2 : Int32), iv (4 : Int32), iv (2 : Int32), iv c1] [(.int (2 : Int32)), (.ref va)])) (fun _ k_ => XS.iloadN X7.here hx rfl (hb hby d11_11) rfl  k_) ?_
  have f8 : Arv Z h7 va kc .char (4 : Int32) [(.int c0), (.int c1), (.int c2), (.int c3)] (.int (0 : Int32)) := f4.other W7 nad
  obtain ⟨cl9, Ar9, q9, S9, N9, H9, G9⟩ := id f8
  have hin9 : ¬ ((2 : Int32) < 0 ∨ cl9.slots.size ≤ ((2 : Int32)).toNatClampNeg) := inb_of S9 ⟨by decide, by decide⟩
  refine own_st (T' := T7) (g' := (mkF m 13 #[rv va, iv (2 : Int32), rv da, iv (2 : Int32), iv (4 : Int32), iv (2 : Int32), iv c1] [(.int c2)])) (X7.caload hx (j := (2 : Int32)) (v := (.int c2)) (by rw [e7]; exact Ar9.1) (State.isArrayOf_alike hZ.alike Ar9.2.1) Ar9.2.2 hin9 (H9.at hin9 rfl) (g := (mkF m 12 #[rv va, iv (2 : Int32), rv da, iv (2 : Int32), iv (4 : Int32), iv (2 : Int32), iv c1] [(.int (2 : Int32)), (.ref va)])) rfl rfl (hb hby d11_12)) ?_
  clear hin9 G9 H9 N9 S9 q9 Ar9 cl9
  refine own_st (T' := T7) (g' := (mkF m 15 #[rv va, iv (2 : Int32), rv da, iv (2 : Int32), iv (4 : Int32), iv (2 : Int32), iv c2] [])) (fun _ k_ => XS.istore X7.here hx rfl (hb hby d11_13) rfl (l' := #[rv va, iv (2 : Int32), rv da, iv (2 : Int32), iv (4 : Int32), iv (2 : Int32), iv c2]) rfl k_) ?_
  refine own_st (T' := T7) (g' := (mkF m 17 #[rv va, iv (2 : Int32), rv da, iv (2 : Int32), iv (4 : Int32), iv (2 : Int32), iv c2] [(.int c2)])) (fun _ k_ => XS.iload X7.here hx rfl (hb hby d11_15) rfl  k_) ?_
  refine own_st (T' := T7) (g' := (mkF m 20 #[rv va, iv (2 : Int32), rv da, iv (2 : Int32), iv (4 : Int32), iv (2 : Int32), iv c2] [(.int (255 : Int32)), (.int c2)])) (fun _ k_ => XS.sipush X7.here hx rfl (hb hby d11_17) k_) ?_
  refine own_st (T' := T7) (g' := (mkF m 26 #[rv va, iv (2 : Int32), rv da, iv (2 : Int32), iv (4 : Int32), iv (2 : Int32), iv c2] [])) (fun _ k_ => XS.icmpYes X7.here hx rfl (pc0 := 20) (pc' := 26) rfl (hb hby d11_20) rfl (flt (hp2 : ¬ ((255 : Int32) < c2))).2.2.2 (by decide) (by decide) k_) ?_
  refine own_st (T' := T7) (g' := (mkF m 27 #[rv va, iv (2 : Int32), rv da, iv (2 : Int32), iv (4 : Int32), iv (2 : Int32), iv c2] [(.ref da)])) (fun _ k_ => XS.aloadN X7.here hx rfl (hb hby d11_26) rfl rfl  k_) ?_
  refine own_st (T' := T7) (g' := (mkF m 28 #[rv va, iv (2 : Int32), rv da, iv (2 : Int32), iv (4 : Int32), iv (2 : Int32), iv c2] [(.int (2 : Int32)), (.ref da)])) (fun _ k_ => XS.iloadN X7.here hx rfl (hb hby d11_27) rfl  k_) ?_
  refine own_st (T' := T7) (g' := (mkF m 30 #[rv va, iv (2 : Int32), rv da, iv (2 : Int32), iv (4 : Int32), iv (2 : Int32), iv c2] [(.int c2), (.int (2 : Int32)), (.ref da)])) (fun _ k_ => XS.iload X7.here hx rfl (hb hby d11_28) rfl  k_) ?_
  refine own_st (T' := T7) (g' := (mkF m 31 #[rv va, iv (2 : Int32), rv da, iv (2 : Int32), iv (4 : Int32), iv (2 : Int32), iv c2] [(.int (c2.toInt8.toInt32)), (.int (2 : Int32)), (.ref da)])) (fun _ k_ => XS.i2b X7.here hx rfl (hb hby d11_30) rfl k_) ?_
  obtain ⟨cl10, Ar10, q10, S10, N10, H10, G10⟩ := id Vn7
  have hin10 : ¬ ((2 : Int32) < 0 ∨ cl10.slots.size ≤ ((2 : Int32)).toNatClampNeg) := inb_of S10 ⟨by decide, by decide⟩
  obtain ⟨T11, h11, X11, e11, W11, st11⟩ := stB X7 hx hZ e7 Ar10 (j := (2 : Int32)) hin10 (g := (mkF m 31 #[rv va, iv (2 : Int32), rv da, iv (2 : Int32), iv (4 : Int32), iv (2 : Int32), iv c2] [(.int (c2.toInt8.toInt32)), (.int (2 : Int32)), (.ref da)])) rfl rfl (hb hby d11_31)
  have V11 : Arv Z h11 da kd .byte (4 : Int32) [(.int (c0.toInt8.toInt32)), (.int (c1.toInt8.toInt32)), (.int (nar .byte (c2.toInt8.toInt32))), (.int (0 : Int32))] (.int (0 : Int32)) := Arv.set Ar10 q10 S10 N10 H10 G10 (fits_nar_byte _) W11 2 rfl (Nat.le_of_ble_eq_true rfl)
  have Vn11 : Arv Z h11 da kd .byte (4 : Int32) [(.int (c0.toInt8.toInt32)), (.int (c1.toInt8.toInt32)), (.int (c2.toInt8.toInt32)), (.int (0 : Int32))] (.int (0 : Int32)) := by simpa only [own_bb] using V11
  have Nx11 := Fr.snoc X11 Nx7 fda
  refine own_st (T' := T11) (g' := (mkF m 32 #[rv va, iv (2 : Int32), rv da, iv (2 : Int32), iv (4 : Int32), iv (2 : Int32), iv c2] [])) st11 ?_
  clear hin10 G10 H10 N10 S10 q10 Ar10 cl10 st11
  refine own_st (T' := T11) (g' := (mkF m 35 #[rv va, iv (3 : Int32), rv da, iv (2 : Int32), iv (4 : Int32), iv (2 : Int32), iv c2] [])) (fun _ k_ => XS.iinc X11.here hx rfl (hb hby d11_32) rfl (l' := #[rv va, iv (3 : Int32), rv da, iv (2 : Int32), iv (4 : Int32), iv (2 : Int32), iv c2]) rfl k_) ?_
  refine own_st (T' := T11) (g' := (mkF m 38 #[rv va, iv (3 : Int32), rv da, iv (3 : Int32), iv (4 : Int32), iv (2 : Int32), iv c2] [])) (fun _ k_ => XS.iinc X11.here hx rfl (hb hby d11_35) rfl (l' := #[rv va, iv (3 : Int32), rv da, iv (3 : Int32), iv (4 : Int32), iv (2 : Int32), iv c2]) rfl k_) ?_
  refine own_st (T' := T11) (g' := (mkF m 41 #[rv va, iv (3 : Int32), rv da, iv (3 : Int32), iv (4 : Int32), iv (3 : Int32), iv c2] [])) (fun _ k_ => XS.iinc X11.here hx rfl (hb hby d11_38) rfl (l' := #[rv va, iv (3 : Int32), rv da, iv (3 : Int32), iv (4 : Int32), iv (3 : Int32), iv c2]) rfl k_) ?_
  refine own_st (T' := T11) (g' := (mkF m 3 #[rv va, iv (3 : Int32), rv da, iv (3 : Int32), iv (4 : Int32), iv (3 : Int32), iv c2] [])) (fun _ k_ => XS.goto X11.here hx rfl (pc0 := 41) (pc' := 3) rfl (hb hby d11_41) (by decide) (by decide) k_) ?_
  refine own_st (T' := T11) (g' := (mkF m 5 #[rv va, iv (3 : Int32), rv da, iv (3 : Int32), iv (4 : Int32), iv (3 : Int32), iv c2] [(.int (3 : Int32))])) (fun _ k_ => XS.iload X11.here hx rfl (hb hby d11_3) rfl  k_) ?_
  refine own_st (T' := T11) (g' := (mkF m 7 #[rv va, iv (3 : Int32), rv da, iv (3 : Int32), iv (4 : Int32), iv (3 : Int32), iv c2] [(.int (4 : Int32)), (.int (3 : Int32))])) (fun _ k_ => XS.iload X11.here hx rfl (hb hby d11_5) rfl  k_) ?_
  refine own_st (T' := T11) (g' := (mkF m 10 #[rv va, iv (3 : Int32), rv da, iv (3 : Int32), iv (4 : Int32), iv (3 : Int32), iv c2] [])) (fun _ k_ => XS.icmpNo X11.here hx rfl (hb hby d11_7) rfl (tlt (by decide : (3 : Int32) < (4 : Int32))).2.1 k_) ?_
  refine own_st (T' := T11) (g' := (mkF m 11 #[rv va, iv (3 : Int32), rv da, iv (3 : Int32), iv (4 : Int32), iv (3 : Int32), iv c2] [(.ref va)])) (fun _ k_ => XS.aloadN X11.here hx rfl (hb hby d11_10) rfl rfl  k_) ?_
  refine own_st (T' := T11) (g' := (mkF m 12 #[rv va, iv (3 : Int32), rv da, iv (3 : Int32), iv (4 : Int32), iv (3 : Int32), iv c2] [(.int (3 : Int32)), (.ref va)])) (fun _ k_ => XS.iloadN X11.here hx rfl (hb hby d11_11) rfl  k_) ?_
  have f12 : Arv Z h11 va kc .char (4 : Int32) [(.int c0), (.int c1), (.int c2), (.int c3)] (.int (0 : Int32)) := f8.other W11 nad
  obtain ⟨cl13, Ar13, q13, S13, N13, H13, G13⟩ := id f12
  have hin13 : ¬ ((3 : Int32) < 0 ∨ cl13.slots.size ≤ ((3 : Int32)).toNatClampNeg) := inb_of S13 ⟨by decide, by decide⟩
  refine own_st (T' := T11) (g' := (mkF m 13 #[rv va, iv (3 : Int32), rv da, iv (3 : Int32), iv (4 : Int32), iv (3 : Int32), iv c2] [(.int c3)])) (X11.caload hx (j := (3 : Int32)) (v := (.int c3)) (by rw [e11]; exact Ar13.1) (State.isArrayOf_alike hZ.alike Ar13.2.1) Ar13.2.2 hin13 (H13.at hin13 rfl) (g := (mkF m 12 #[rv va, iv (3 : Int32), rv da, iv (3 : Int32), iv (4 : Int32), iv (3 : Int32), iv c2] [(.int (3 : Int32)), (.ref va)])) rfl rfl (hb hby d11_12)) ?_
  clear hin13 G13 H13 N13 S13 q13 Ar13 cl13
  refine own_st (T' := T11) (g' := (mkF m 15 #[rv va, iv (3 : Int32), rv da, iv (3 : Int32), iv (4 : Int32), iv (3 : Int32), iv c3] [])) (fun _ k_ => XS.istore X11.here hx rfl (hb hby d11_13) rfl (l' := #[rv va, iv (3 : Int32), rv da, iv (3 : Int32), iv (4 : Int32), iv (3 : Int32), iv c3]) rfl k_) ?_
  refine own_st (T' := T11) (g' := (mkF m 17 #[rv va, iv (3 : Int32), rv da, iv (3 : Int32), iv (4 : Int32), iv (3 : Int32), iv c3] [(.int c3)])) (fun _ k_ => XS.iload X11.here hx rfl (hb hby d11_15) rfl  k_) ?_
  refine own_st (T' := T11) (g' := (mkF m 20 #[rv va, iv (3 : Int32), rv da, iv (3 : Int32), iv (4 : Int32), iv (3 : Int32), iv c3] [(.int (255 : Int32)), (.int c3)])) (fun _ k_ => XS.sipush X11.here hx rfl (hb hby d11_17) k_) ?_
  refine own_st (T' := T11) (g' := (mkF m 26 #[rv va, iv (3 : Int32), rv da, iv (3 : Int32), iv (4 : Int32), iv (3 : Int32), iv c3] [])) (fun _ k_ => XS.icmpYes X11.here hx rfl (pc0 := 20) (pc' := 26) rfl (hb hby d11_20) rfl (flt (hp3 : ¬ ((255 : Int32) < c3))).2.2.2 (by decide) (by decide) k_) ?_
  refine own_st (T' := T11) (g' := (mkF m 27 #[rv va, iv (3 : Int32), rv da, iv (3 : Int32), iv (4 : Int32), iv (3 : Int32), iv c3] [(.ref da)])) (fun _ k_ => XS.aloadN X11.here hx rfl (hb hby d11_26) rfl rfl  k_) ?_
  refine own_st (T' := T11) (g' := (mkF m 28 #[rv va, iv (3 : Int32), rv da, iv (3 : Int32), iv (4 : Int32), iv (3 : Int32), iv c3] [(.int (3 : Int32)), (.ref da)])) (fun _ k_ => XS.iloadN X11.here hx rfl (hb hby d11_27) rfl  k_) ?_
  refine own_st (T' := T11) (g' := (mkF m 30 #[rv va, iv (3 : Int32), rv da, iv (3 : Int32), iv (4 : Int32), iv (3 : Int32), iv c3] [(.int c3), (.int (3 : Int32)), (.ref da)])) (fun _ k_ => XS.iload X11.here hx rfl (hb hby d11_28) rfl  k_) ?_
  refine own_st (T' := T11) (g' := (mkF m 31 #[rv va, iv (3 : Int32), rv da, iv (3 : Int32), iv (4 : Int32), iv (3 : Int32), iv c3] [(.int (c3.toInt8.toInt32)), (.int (3 : Int32)), (.ref da)])) (fun _ k_ => XS.i2b X11.here hx rfl (hb hby d11_30) rfl k_) ?_
  obtain ⟨cl14, Ar14, q14, S14, N14, H14, G14⟩ := id Vn11
  have hin14 : ¬ ((3 : Int32) < 0 ∨ cl14.slots.size ≤ ((3 : Int32)).toNatClampNeg) := inb_of S14 ⟨by decide, by decide⟩
  obtain ⟨T15, h15, X15, e15, W15, st15⟩ := stB X11 hx hZ e11 Ar14 (j := (3 : Int32)) hin14 (g := (mkF m 31 #[rv va, iv (3 : Int32), rv da, iv (3 : Int32), iv (4 : Int32), iv (3 : Int32), iv c3] [(.int (c3.toInt8.toInt32)), (.int (3 : Int32)), (.ref da)])) rfl rfl (hb hby d11_31)
  have V15 : Arv Z h15 da kd .byte (4 : Int32) [(.int (c0.toInt8.toInt32)), (.int (c1.toInt8.toInt32)), (.int (c2.toInt8.toInt32)), (.int (nar .byte (c3.toInt8.toInt32)))] (.int (0 : Int32)) := Arv.set Ar14 q14 S14 N14 H14 G14 (fits_nar_byte _) W15 3 rfl (Nat.le_of_ble_eq_true rfl)
  have Vn15 : Arv Z h15 da kd .byte (4 : Int32) [(.int (c0.toInt8.toInt32)), (.int (c1.toInt8.toInt32)), (.int (c2.toInt8.toInt32)), (.int (c3.toInt8.toInt32))] (.int (0 : Int32)) := by simpa only [own_bb] using V15
  have Nx15 := Fr.snoc X15 Nx11 fda
  refine own_st (T' := T15) (g' := (mkF m 32 #[rv va, iv (3 : Int32), rv da, iv (3 : Int32), iv (4 : Int32), iv (3 : Int32), iv c3] [])) st15 ?_
  clear hin14 G14 H14 N14 S14 q14 Ar14 cl14 st15
  refine own_st (T' := T15) (g' := (mkF m 35 #[rv va, iv (4 : Int32), rv da, iv (3 : Int32), iv (4 : Int32), iv (3 : Int32), iv c3] [])) (fun _ k_ => XS.iinc X15.here hx rfl (hb hby d11_32) rfl (l' := #[rv va, iv (4 : Int32), rv da, iv (3 : Int32), iv (4 : Int32), iv (3 : Int32), iv c3]) rfl k_) ?_
  refine own_st (T' := T15) (g' := (mkF m 38 #[rv va, iv (4 : Int32), rv da, iv (4 : Int32), iv (4 : Int32), iv (3 : Int32), iv c3] [])) (fun _ k_ => XS.iinc X15.here hx rfl (hb hby d11_35) rfl (l' := #[rv va, iv (4 : Int32), rv da, iv (4 : Int32), iv (4 : Int32), iv (3 : Int32), iv c3]) rfl k_) ?_
  refine own_st (T' := T15) (g' := (mkF m 41 #[rv va, iv (4 : Int32), rv da, iv (4 : Int32), iv (4 : Int32), iv (4 : Int32), iv c3] [])) (fun _ k_ => XS.iinc X15.here hx rfl (hb hby d11_38) rfl (l' := #[rv va, iv (4 : Int32), rv da, iv (4 : Int32), iv (4 : Int32), iv (4 : Int32), iv c3]) rfl k_) ?_
  refine own_st (T' := T15) (g' := (mkF m 3 #[rv va, iv (4 : Int32), rv da, iv (4 : Int32), iv (4 : Int32), iv (4 : Int32), iv c3] [])) (fun _ k_ => XS.goto X15.here hx rfl (pc0 := 41) (pc' := 3) rfl (hb hby d11_41) (by decide) (by decide) k_) ?_
  refine own_st (T' := T15) (g' := (mkF m 5 #[rv va, iv (4 : Int32), rv da, iv (4 : Int32), iv (4 : Int32), iv (4 : Int32), iv c3] [(.int (4 : Int32))])) (fun _ k_ => XS.iload X15.here hx rfl (hb hby d11_3) rfl  k_) ?_
  refine own_st (T' := T15) (g' := (mkF m 7 #[rv va, iv (4 : Int32), rv da, iv (4 : Int32), iv (4 : Int32), iv (4 : Int32), iv c3] [(.int (4 : Int32)), (.int (4 : Int32))])) (fun _ k_ => XS.iload X15.here hx rfl (hb hby d11_5) rfl  k_) ?_
  refine own_st (T' := T15) (g' := (mkF m 44 #[rv va, iv (4 : Int32), rv da, iv (4 : Int32), iv (4 : Int32), iv (4 : Int32), iv c3] [])) (fun _ k_ => XS.icmpYes X15.here hx rfl (pc0 := 7) (pc' := 44) rfl (hb hby d11_7) rfl (flt (by decide : ¬ ((4 : Int32) < (4 : Int32)))).2.1 (by decide) (by decide) k_) ?_
  refine own_st (T' := T15) (g' := (mkF m 46 #[rv va, iv (4 : Int32), rv da, iv (4 : Int32), iv (4 : Int32), iv (4 : Int32), iv c3] [(.int (4 : Int32))])) (fun _ k_ => XS.iload X15.here hx rfl (hb hby d11_44) rfl  k_) ?_
  have f16 : Keep h0 h3 [da] := (Keep.refl h0 [da]).wr W3 (Or.inl (List.mem_of_getElem? (i := 0) rfl))
  have f17 : Keep h0 h7 [da] := f16.wr W7 (Or.inl (List.mem_of_getElem? (i := 0) rfl))
  have f18 : Keep h0 h11 [da] := f17.wr W11 (Or.inl (List.mem_of_getElem? (i := 0) rfl))
  have f19 : Keep h0 h15 [da] := f18.wr W15 (Or.inl (List.mem_of_getElem? (i := 0) rfl))
  exact own_retI X15 hx hret hlk (hb hby d11_46) (by decide) (by decide) (by rw [e15]; exact ⟨rfl, Nx15, f19, Vn15⟩)
theorem ef_cmp3_4 (m : MethodId) (x0 : Addr) (x1 : Int32) (x2 : Int32) : entryFrame m #[(.ref x0), (.int x1), (.int x2)] 6 = mkF m 0 #[rv x0, iv x1, iv x2, .unset, .unset, .unset] [] := by first | (simp [entryFrame, mkF, argsToLocals, Value.category]; done) | rfl
def Q_cmp3_4 (Z : State) (va : Addr) (kc : ClassId) (c0 : Int32) (c1 : Int32) (c2 : Int32) (c3 : Int32) (h0 : Heap) (n0 : Nat) (v : Option Value) (h : Heap) (L : List Loc) : Prop := ∃ (t : Addr) (kb : ClassId), (v = some (.ref t)) ∧ (Fr n0 L) ∧ (Keep h0 h []) ∧ (Arv Z h t kb .byte (4 : Int32) [(.int (c0.toInt8.toInt32)), (.int (c1.toInt8.toInt32)), (.int (c2.toInt8.toInt32)), (.int (c3.toInt8.toInt32))] (.int (0 : Int32))) ∧ (h0.size ≤ t)
set_option maxRecDepth 65536 in
set_option maxHeartbeats 40000000 in
theorem rm_cmp3_4 (l : Launch) (Z : State) (a0 : Array Value) (hw : ∀ d ∈ tables_1, d.before a0 Z = true) (ws : List Jvm.Cond) (va : Addr) (kc : ClassId) (c0 : Int32) (c1 : Int32) (c2 : Int32) (c3 : Int32) (h0 : Heap) (n0 : Nat) (O0 : Old Z n0 h0) (VA : Arv Z h0 va kc .char (4 : Int32) [(.int c0), (.int c1), (.int c2), (.int c3)] (.int (0 : Int32))) (hp0 : ¬ (255 : Int32) < c0) (hp1 : ¬ (255 : Int32) < c1) (hp2 : ¬ (255 : Int32) < c2) (hp3 : ¬ (255 : Int32) < c3) :
    MetFree l own_m3 (head1 (Jvm.Cond.code own_m3 jdk_52_method_16_code 6 (some (.array .byte)) :: ws) ({ frames := 1, cells := 1, slots := 4, locals := 18 } : Room)) (fun ar_ U => ar_ = #[(.ref va), (.int (0 : Int32)), (.int (4 : Int32))] ∧ Z.Warmed39 U.vm ∧ U.heap = h0) (fun _ _ _ _ _ => True) (fun _ U o U' => ∃ v L, o = .returned v ∧ Q_cmp3_4 Z va kc c0 c1 c2 c3 h0 n0 v U'.heap L ∧ FrameEnd U o U' L ({ frames := 1, cells := 1, slots := 4, locals := 18 } : Room).cells ({ frames := 1, cells := 1, slots := 4, locals := 18 } : Room).slots) := by
  refine MetFree.of_bodySF (plainFor_of_name pn_1) hisR ?_
  intro p e s m args below meth c s₁ Bd hml0 hP hK
  obtain ⟨rfl, hZ, hh⟩ := hP
  have hx := Bd.exec
  have hby := Bd.bytes
  have hml : c.maxLocals = 6 := hml0
  have hown : s.vm.findClass "java/lang/StringUTF16" = some m.cls := findClass_of_methodNamed Bd.named
  have hnm := (name_of_methodNamed Bd.named Bd.method).1
  have X0 : Stand p l e ({ frames := 1, cells := 1, slots := 4, locals := 18 } : Room) s m #[(.ref va), (.int (0 : Int32)), (.int (4 : Int32))] below meth c s₁ [] 0 0 := Stand.of_body Bd
  have e0 : s₁.heap = h0 := by rw [← hh, Bd.state]; rfl
  have N0 := Fr.nil n0
  have hret := Bd.returns
  have hlk : meth.locks = false := Bd.notSynchronized
  show own_E p e below s ({ frames := 1, cells := 1, slots := 4, locals := 18 } : Room).cells ({ frames := 1, cells := 1, slots := 4, locals := 18 } : Room).slots (Q_cmp3_4 Z va kc c0 c1 c2 c3 h0 n0) s₁ (entryFrame m #[(.ref va), (.int (0 : Int32)), (.int (4 : Int32))] 6)
  rw [ef_cmp3_4 m va (0 : Int32) (4 : Int32)]
  refine own_st (T' := s₁) (g' := (mkF m 1 #[rv va, iv (0 : Int32), iv (4 : Int32), .unset, .unset, .unset] [(.int (4 : Int32))])) (fun _ k_ => XS.iloadN X0.here hx rfl (hb hby d10_0) rfl  k_) ?_
  obtain ⟨T1, h1, k1, X1, e1, E1, A1, st1⟩ := newP X0 hx hZ (hw _ (List.mem_of_getElem? (i := 22) rfl)) e0 (g := (mkF m 1 #[rv va, iv (0 : Int32), iv (4 : Int32), .unset, .unset, .unset] [(.int (4 : Int32))])) rfl (hb hby d10_1) rfl (by decide) (cap := 4) (by decide) (by decide) (by decide) (by decide)
  obtain ⟨b1, g1⟩ : ∃ z, z = h0.size := ⟨_, rfl⟩
  rw [← g1] at A1 st1
  have fr1 : n0 ≤ b1 := Nat.le_trans (own_z O0) (Nat.le_of_eq g1.symm)
  have sz1 : h0.size ≤ b1 := Nat.le_trans (Keep.refl h0 []).1 (Nat.le_of_eq g1.symm)
  have V1 : Arv Z h1 b1 k1 .byte (4 : Int32) [(.int (0 : Int32)), (.int (0 : Int32)), (.int (0 : Int32)), (.int (0 : Int32))] (.int (0 : Int32)) := (Arv.new A1 (by decide)).pad (pad_rep [] (.int (0 : Int32)) 4)
  refine own_st (T' := T1) (g' := (mkF m 3 #[rv va, iv (0 : Int32), iv (4 : Int32), .unset, .unset, .unset] [(.ref b1)])) st1 ?_
  clear st1
  refine own_st (T' := T1) (g' := (mkF m 4 #[rv va, iv (0 : Int32), iv (4 : Int32), rv b1, .unset, .unset] [])) (fun _ k_ => XS.astoreN X1.here hx rfl (hb hby d10_3) rfl rfl (l' := #[rv va, iv (0 : Int32), iv (4 : Int32), rv b1, .unset, .unset]) rfl k_) ?_
  refine own_st (T' := T1) (g' := (mkF m 5 #[rv va, iv (0 : Int32), iv (4 : Int32), rv b1, .unset, .unset] [(.ref va)])) (fun _ k_ => XS.aloadN X1.here hx rfl (hb hby d10_4) rfl rfl  k_) ?_
  refine own_st (T' := T1) (g' := (mkF m 6 #[rv va, iv (0 : Int32), iv (4 : Int32), rv b1, .unset, .unset] [(.int (0 : Int32)), (.ref va)])) (fun _ k_ => XS.iloadN X1.here hx rfl (hb hby d10_5) rfl  k_) ?_
  refine own_st (T' := T1) (g' := (mkF m 7 #[rv va, iv (0 : Int32), iv (4 : Int32), rv b1, .unset, .unset] [(.ref b1), (.int (0 : Int32)), (.ref va)])) (fun _ k_ => XS.aloadN X1.here hx rfl (hb hby d10_6) rfl rfl  k_) ?_
  refine own_st (T' := T1) (g' := (mkF m 8 #[rv va, iv (0 : Int32), iv (4 : Int32), rv b1, .unset, .unset] [(.int (0 : Int32)), (.ref b1), (.int (0 : Int32)), (.ref va)])) (fun _ k_ => XS.iconst X1.here hx rfl (hb hby d10_7) k_) ?_
  refine own_st (T' := T1) (g' := (mkF m 9 #[rv va, iv (0 : Int32), iv (4 : Int32), rv b1, .unset, .unset] [(.int (4 : Int32)), (.int (0 : Int32)), (.ref b1), (.int (0 : Int32)), (.ref va)])) (fun _ k_ => XS.iloadN X1.here hx rfl (hb hby d10_8) rfl  k_) ?_
  have f2 : Arv Z h1 va kc .char (4 : Int32) [(.int c0), (.int c1), (.int c2), (.int c3)] (.int (0 : Int32)) := VA.ext E1
  have ne3 : va ≠ b1 := Nat.ne_of_lt (Nat.lt_of_lt_of_le VA.lt (Nat.le_of_eq g1.symm))
  have f4 : Old Z n0 h1 := O0.ext E1
  obtain ⟨_, T5, L5, X5, hQ5, st5⟩ := own_callS X1 hx (y := own_m2) hown (mvT hZ (hw _ (List.mem_of_getElem? (i := 51) rfl))) (mvT hZ (hw _ (List.mem_of_getElem? (i := 52) rfl))) (mvT hZ (hw _ (List.mem_of_getElem? (i := 49) rfl))) (mvT hZ (hw _ (List.mem_of_getElem? (i := 53) rfl))) (by decide) (backOf (W := 0) (rm_cmp5_4 l Z a0 hw [] va b1 kc k1 c0 c1 c2 c3 h1 n0 f4 f2 V1 ne3 fr1 hp0 hp1 hp2 hp3) hZ (hw _ (List.mem_of_getElem? (i := 53) rfl)) (hw _ (List.mem_of_getElem? (i := 49) rfl)) (by decide) (by decide)) (g := (mkF m 9 #[rv va, iv (0 : Int32), iv (4 : Int32), rv b1, .unset, .unset] [(.int (4 : Int32)), (.int (0 : Int32)), (.ref b1), (.int (0 : Int32)), (.ref va)])) rfl (by rw [hml]; rfl) (argsL := [(.ref va), (.int (0 : Int32)), (.ref b1), (.int (0 : Int32)), (.int (4 : Int32))]) (rest := []) (lenOf pd___CI_BII_I rfl) rfl (by show 2 * 0 + _ ≤ _; exact Nat.le_of_eq rfl) (hb hby d10_9) rfl e1 (by decide) (by decide) (c' := 1) (s' := 4) rfl rfl
  obtain ⟨rfl, Nq5, K5, fq5_0⟩ := hQ5
  have N5 := Fr.app N0 Nq5
  refine own_st (T' := T5) (g' := (mkF m 12 #[rv va, iv (0 : Int32), iv (4 : Int32), rv b1, .unset, .unset] [(.int (4 : Int32))])) st5 ?_
  clear st5
  refine own_st (T' := T5) (g' := (mkF m 14 #[rv va, iv (0 : Int32), iv (4 : Int32), rv b1, iv (4 : Int32), .unset] [])) (fun _ k_ => XS.istore X5.here hx rfl (hb hby d10_12) rfl (l' := #[rv va, iv (0 : Int32), iv (4 : Int32), rv b1, iv (4 : Int32), .unset]) rfl k_) ?_
  refine own_st (T' := T5) (g' := (mkF m 16 #[rv va, iv (0 : Int32), iv (4 : Int32), rv b1, iv (4 : Int32), .unset] [(.int (4 : Int32))])) (fun _ k_ => XS.iload X5.here hx rfl (hb hby d10_14) rfl  k_) ?_
  refine own_st (T' := T5) (g' := (mkF m 17 #[rv va, iv (0 : Int32), iv (4 : Int32), rv b1, iv (4 : Int32), .unset] [(.int (4 : Int32)), (.int (4 : Int32))])) (fun _ k_ => XS.iloadN X5.here hx rfl (hb hby d10_16) rfl  k_) ?_
  refine own_st (T' := T5) (g' := (mkF m 57 #[rv va, iv (0 : Int32), iv (4 : Int32), rv b1, iv (4 : Int32), .unset] [])) (fun _ k_ => XS.icmpYes X5.here hx rfl (pc0 := 17) (pc' := 57) rfl (hb hby d10_17) rfl (teq (rfl : (4 : Int32) = (4 : Int32))).1 (by decide) (by decide) k_) ?_
  refine own_st (T' := T5) (g' := (mkF m 58 #[rv va, iv (0 : Int32), iv (4 : Int32), rv b1, iv (4 : Int32), .unset] [(.ref b1)])) (fun _ k_ => XS.aloadN X5.here hx rfl (hb hby d10_57) rfl rfl  k_) ?_
  have f6 : Keep h0 h1 [] := (Keep.refl h0 []).ext E1
  have f7 : Keep h0 T5.heap [] := f6.trans K5 (allS (Or.inr sz1) all0)
  exact own_retA X5 hx hret rfl rfl hlk (hb hby d10_58) (by decide) (by decide) ⟨b1, k1, rfl, N5, f7, fq5_0, sz1⟩
theorem ef_cdr_4 (m : MethodId) (x0 : Addr) (x1 : Int32) : entryFrame m #[(.ref x0), (.int x1)] 2 = mkF m 0 #[rv x0, iv x1] [] := by first | (simp [entryFrame, mkF, argsToLocals, Value.category]; done) | rfl
def Q_cdr_4 (Z : State) (t : Addr) (kb : ClassId) (vs : List Value) (h0 : Heap) (n0 : Nat) (v : Option Value) (h : Heap) (L : List Loc) : Prop := (v = some (.int (0 : Int32))) ∧ (Fr n0 L) ∧ (h = h0)
set_option maxRecDepth 65536 in
set_option maxHeartbeats 40000000 in
theorem rm_cdr_4 (l : Launch) (Z : State) (a0 : Array Value) (hw : ∀ d ∈ tables_1, d.before a0 Z = true) (ws : List Jvm.Cond) (t : Addr) (kb : ClassId) (vs : List Value) (h0 : Heap) (n0 : Nat) (O0 : Old Z n0 h0) (VT : Arv Z h0 t kb .byte (4 : Int32) vs (.int (0 : Int32))) :
    MetFree l own_m4 (head1 (Jvm.Cond.code own_m4 jdk_52_method_15_code 2 (some .byte) :: ws) ({ frames := 0, cells := 0, slots := 0, locals := 0 } : Room)) (fun ar_ U => ar_ = #[(.ref t), (.int (4 : Int32))] ∧ Z.Warmed39 U.vm ∧ U.heap = h0) (fun _ _ _ _ _ => True) (fun _ U o U' => ∃ v L, o = .returned v ∧ Q_cdr_4 Z t kb vs h0 n0 v U'.heap L ∧ FrameEnd U o U' L ({ frames := 0, cells := 0, slots := 0, locals := 0 } : Room).cells ({ frames := 0, cells := 0, slots := 0, locals := 0 } : Room).slots) := by
  refine MetFree.of_bodySF (plainFor_of_name pn_1) hisR ?_
  intro p e s m args below meth c s₁ Bd hml0 hP hK
  obtain ⟨rfl, hZ, hh⟩ := hP
  have hx := Bd.exec
  have hby := Bd.bytes
  have hml : c.maxLocals = 2 := hml0
  have hown : s.vm.findClass "java/lang/StringUTF16" = some m.cls := findClass_of_methodNamed Bd.named
  have hnm := (name_of_methodNamed Bd.named Bd.method).1
  have X0 : Stand p l e ({ frames := 0, cells := 0, slots := 0, locals := 0 } : Room) s m #[(.ref t), (.int (4 : Int32))] below meth c s₁ [] 0 0 := Stand.of_body Bd
  have e0 : s₁.heap = h0 := by rw [← hh, Bd.state]; rfl
  have N0 := Fr.nil n0
  have hret := Bd.returns
  have hlk : meth.locks = false := Bd.notSynchronized
  show own_E p e below s ({ frames := 0, cells := 0, slots := 0, locals := 0 } : Room).cells ({ frames := 0, cells := 0, slots := 0, locals := 0 } : Room).slots (Q_cdr_4 Z t kb vs h0 n0) s₁ (entryFrame m #[(.ref t), (.int (4 : Int32))] 2)
  rw [ef_cdr_4 m t (4 : Int32)]
  refine own_st (T' := s₁) (g' := (mkF m 1 #[rv t, iv (4 : Int32)] [(.int (4 : Int32))])) (fun _ k_ => XS.iloadN X0.here hx rfl (hb hby d12_0) rfl  k_) ?_
  refine own_st (T' := s₁) (g' := (mkF m 2 #[rv t, iv (4 : Int32)] [(.ref t), (.int (4 : Int32))])) (fun _ k_ => XS.aloadN X0.here hx rfl (hb hby d12_1) rfl rfl  k_) ?_
  obtain ⟨cl1, Ar1, -, S1, N1, -, -⟩ := id VT
  refine own_st (T' := s₁) (g' := (mkF m 3 #[rv t, iv (4 : Int32)] [(.int (4 : Int32)), (.int (4 : Int32))])) (fun t_ k_ => X0.arraylength hx (by rw [e0]; exact Ar1.1) (State.isArrayOf_alike hZ.alike Ar1.2.1) (g := (mkF m 2 #[rv t, iv (4 : Int32)] [(.ref t), (.int (4 : Int32))])) rfl rfl (hb hby d12_2) _ (by rw [len_of S1 N1]; exact k_)) ?_
  refine own_st (T' := s₁) (g' := (mkF m 4 #[rv t, iv (4 : Int32)] [(.int (0 : Int32))])) (fun _ k_ => XS.isub X0.here hx rfl (hb hby d12_3) rfl k_) ?_
  refine own_st (T' := s₁) (g' := (mkF m 6 #[rv t, iv (4 : Int32)] [(.int (31 : Int32)), (.int (0 : Int32))])) (fun _ k_ => XS.bipush X0.here hx rfl (hb hby d12_4) k_) ?_
  refine own_st (T' := s₁) (g' := (mkF m 7 #[rv t, iv (4 : Int32)] [(.int (((0 : Int32).toUInt32 >>> ((31 : Int32) &&& 31).toUInt32).toInt32))])) (fun _ k_ => XS.iushr X0.here hx rfl (hb hby d12_6) rfl k_) ?_
  refine own_st (T' := s₁) (g' := (mkF m 8 #[rv t, iv (4 : Int32)] [(.int ((((0 : Int32).toUInt32 >>> ((31 : Int32) &&& 31).toUInt32).toInt32).toInt8.toInt32))])) (fun _ k_ => XS.i2b X0.here hx rfl (hb hby d12_7) rfl k_) ?_
  exact own_retN X0 hx (t := .byte) hret (by simp) hlk (hb hby d12_8) (by decide) (by decide) ⟨(by decide), N0, e0⟩
theorem ef_ini4_4 (m : MethodId) (x0 : Addr) (x1 : Addr) (x2 : Int32) (x3 : Int32) : entryFrame m #[(.ref x0), (.ref x1), (.int x2), (.int x3), .null] 6 = mkF m 0 #[rv x0, rv x1, iv x2, iv x3, .val .null, .unset] [] := by first | (simp [entryFrame, mkF, argsToLocals, Value.category]; done) | rfl
def Q_ini4_4 (Z : State) (a : Addr) (va : Addr) (kc : ClassId) (cz : Int32) (c0 : Int32) (c1 : Int32) (c2 : Int32) (c3 : Int32) (h0 : Heap) (n0 : Nat) (v : Option Value) (h : Heap) (L : List Loc) : Prop := ∃ (t : Addr) (kb : ClassId), (v = none) ∧ (Fr n0 L) ∧ (Keep h0 h [a]) ∧ (Exa Z h a "java/lang/String") ∧ (Fld Z h a "java/lang/String" "coder" "B" (.int (0 : Int32))) ∧ (Fld Z h a "java/lang/String" "value" "[B" (.ref t)) ∧ (Arv Z h t kb .byte (4 : Int32) [(.int (c0.toInt8.toInt32)), (.int (c1.toInt8.toInt32)), (.int (c2.toInt8.toInt32)), (.int (c3.toInt8.toInt32))] (.int (0 : Int32))) ∧ (h0.size ≤ t)
set_option maxRecDepth 65536 in
set_option maxHeartbeats 40000000 in
theorem rm_ini4_4 (l : Launch) (Z : State) (a0 : Array Value) (hw : ∀ d ∈ tables_1, d.before a0 Z = true) (ws : List Jvm.Cond) (a : Addr) (va : Addr) (kc : ClassId) (cz : Int32) (c0 : Int32) (c1 : Int32) (c2 : Int32) (c3 : Int32) (h0 : Heap) (n0 : Nat) (O0 : Old Z n0 h0) (EA : Exa Z h0 a "java/lang/String") (FV : Fld Z h0 a "java/lang/String" "value" "[B" .null) (FC : Fld Z h0 a "java/lang/String" "coder" "B" (.int (0 : Int32))) (fa : n0 ≤ a) (VA : Arv Z h0 va kc .char (4 : Int32) [(.int c0), (.int c1), (.int c2), (.int c3)] (.int (0 : Int32))) (SC : Sta Z Z.heap "java/lang/String" "COMPACT_STRINGS" "Z" (.int cz)) (hcz : ¬ cz = (0 : Int32)) (hp0 : ¬ (255 : Int32) < c0) (hp1 : ¬ (255 : Int32) < c1) (hp2 : ¬ (255 : Int32) < c2) (hp3 : ¬ (255 : Int32) < c3) :
    MetFree l own_m0 (head1 (Jvm.Cond.code own_m0 jdk_42_method_149_code 6 none :: ws) ({ frames := 2, cells := 1, slots := 4, locals := 35 } : Room)) (fun ar_ U => ar_ = #[(.ref a), (.ref va), (.int (0 : Int32)), (.int (4 : Int32)), .null] ∧ Z.Warmed39 U.vm ∧ U.heap = h0) (fun _ _ _ _ _ => True) (fun _ U o U' => ∃ v L, o = .returned v ∧ Q_ini4_4 Z a va kc cz c0 c1 c2 c3 h0 n0 v U'.heap L ∧ FrameEnd U o U' L ({ frames := 2, cells := 1, slots := 4, locals := 35 } : Room).cells ({ frames := 2, cells := 1, slots := 4, locals := 35 } : Room).slots) := by
  refine MetFree.of_bodySF (plainFor_of_name pn_0) hisR ?_
  intro p e s m args below meth c s₁ Bd hml0 hP hK
  obtain ⟨rfl, hZ, hh⟩ := hP
  have hx := Bd.exec
  have hby := Bd.bytes
  have hml : c.maxLocals = 6 := hml0
  have hown : s.vm.findClass "java/lang/String" = some m.cls := findClass_of_methodNamed Bd.named
  have hnm := (name_of_methodNamed Bd.named Bd.method).1
  have X0 : Stand p l e ({ frames := 2, cells := 1, slots := 4, locals := 35 } : Room) s m #[(.ref a), (.ref va), (.int (0 : Int32)), (.int (4 : Int32)), .null] below meth c s₁ [] 0 0 := Stand.of_body Bd
  have e0 : s₁.heap = h0 := by rw [← hh, Bd.state]; rfl
  have N0 := Fr.nil n0
  have hret := Bd.returns
  have hlk : meth.locks = false := Bd.notSynchronized
  show own_E p e below s ({ frames := 2, cells := 1, slots := 4, locals := 35 } : Room).cells ({ frames := 2, cells := 1, slots := 4, locals := 35 } : Room).slots (Q_ini4_4 Z a va kc cz c0 c1 c2 c3 h0 n0) s₁ (entryFrame m #[(.ref a), (.ref va), (.int (0 : Int32)), (.int (4 : Int32)), .null] 6)
  rw [ef_ini4_4 m a va (0 : Int32) (4 : Int32)]
  refine own_st (T' := s₁) (g' := (mkF m 1 #[rv a, rv va, iv (0 : Int32), iv (4 : Int32), .val .null, .unset] [(.ref a)])) (fun _ k_ => XS.aloadN X0.here hx rfl (hb hby d4_0) rfl rfl  k_) ?_
  obtain ⟨T1, X1, e1, st1⟩ := initO X0 hx hZ hown (hw _ (List.mem_of_getElem? (i := 18) rfl)) (hw _ (List.mem_of_getElem? (i := 19) rfl)) (hw _ (List.mem_of_getElem? (i := 20) rfl)) e0 (g := (mkF m 1 #[rv a, rv va, iv (0 : Int32), iv (4 : Int32), .val .null, .unset] [(.ref a)])) rfl (by rw [hml]; rfl) rfl (hb hby d4_1) (by decide) (W := 0) (by show 2 * 0 + _ ≤ _; exact Nat.le_of_eq rfl) (by decide)
  refine own_st (T' := T1) (g' := (mkF m 4 #[rv a, rv va, iv (0 : Int32), iv (4 : Int32), .val .null, .unset] [])) st1 ?_
  clear st1
  refine own_st (T' := T1) (g' := (mkF m 5 #[rv a, rv va, iv (0 : Int32), iv (4 : Int32), .val .null, .unset] [(.int (4 : Int32))])) (fun _ k_ => XS.iloadN X1.here hx rfl (hb hby d4_4) rfl  k_) ?_
  refine own_st (T' := T1) (g' := (mkF m 27 #[rv a, rv va, iv (0 : Int32), iv (4 : Int32), .val .null, .unset] [])) (fun _ k_ => XS.ifYes X1.here hx rfl (pc0 := 5) (pc' := 27) rfl (hb hby d4_5) rfl ((if0 _ _).trans (feq (by decide : ¬ ((4 : Int32) = (0 : Int32)))).2) (by decide) (by decide) k_) ?_
  obtain ⟨T2, X2, e2, st2⟩ := getS2 X1 hx hZ hown (host := "") (Or.inl (hw _ (List.mem_of_getElem? (i := 43) rfl))) Via.refl e1 (SC.ext O0.2) (g := (mkF m 27 #[rv a, rv va, iv (0 : Int32), iv (4 : Int32), .val .null, .unset] [])) rfl (hb hby d4_27)
  refine own_st (T' := T2) (g' := (mkF m 30 #[rv a, rv va, iv (0 : Int32), iv (4 : Int32), .val .null, .unset] [(.int cz)])) st2 ?_
  clear st2
  refine own_st (T' := T2) (g' := (mkF m 33 #[rv a, rv va, iv (0 : Int32), iv (4 : Int32), .val .null, .unset] [])) (fun _ k_ => XS.ifNo X2.here hx rfl (hb hby d4_30) rfl ((if0 _ _).trans (feq (hcz : ¬ (cz = (0 : Int32)))).1) k_) ?_
  refine own_st (T' := T2) (g' := (mkF m 34 #[rv a, rv va, iv (0 : Int32), iv (4 : Int32), .val .null, .unset] [(.ref va)])) (fun _ k_ => XS.aloadN X2.here hx rfl (hb hby d4_33) rfl rfl  k_) ?_
  refine own_st (T' := T2) (g' := (mkF m 35 #[rv a, rv va, iv (0 : Int32), iv (4 : Int32), .val .null, .unset] [(.int (0 : Int32)), (.ref va)])) (fun _ k_ => XS.iloadN X2.here hx rfl (hb hby d4_34) rfl  k_) ?_
  refine own_st (T' := T2) (g' := (mkF m 36 #[rv a, rv va, iv (0 : Int32), iv (4 : Int32), .val .null, .unset] [(.int (4 : Int32)), (.int (0 : Int32)), (.ref va)])) (fun _ k_ => XS.iloadN X2.here hx rfl (hb hby d4_35) rfl  k_) ?_
  obtain ⟨_, T3, L3, X3, hQ3, st3⟩ := own_callS X2 hx (y := own_m3) hown (mvT hZ (hw _ (List.mem_of_getElem? (i := 47) rfl))) (mvT hZ (hw _ (List.mem_of_getElem? (i := 48) rfl))) (mvT hZ (hw _ (List.mem_of_getElem? (i := 49) rfl))) (mvT hZ (hw _ (List.mem_of_getElem? (i := 50) rfl))) (by decide) (backOf (W := 0) (rm_cmp3_4 l Z a0 hw [] va kc c0 c1 c2 c3 h0 n0 O0 VA hp0 hp1 hp2 hp3) hZ (hw _ (List.mem_of_getElem? (i := 50) rfl)) (hw _ (List.mem_of_getElem? (i := 49) rfl)) (by decide) (by decide)) (g := (mkF m 36 #[rv a, rv va, iv (0 : Int32), iv (4 : Int32), .val .null, .unset] [(.int (4 : Int32)), (.int (0 : Int32)), (.ref va)])) rfl (by rw [hml]; rfl) (argsL := [(.ref va), (.int (0 : Int32)), (.int (4 : Int32))]) (rest := []) (lenOf pd___CII__B rfl) rfl (by show 2 * 0 + _ ≤ _; exact Nat.le_of_eq rfl) (hb hby d4_36) rfl e2 (by decide) (by decide) (c' := 1) (s' := 4) rfl rfl
  obtain ⟨t3, kb3, rfl, Nq3, K3, fq3_0, xq3_fresh_t⟩ := hQ3
  have N3 := Fr.app N0 Nq3
  refine own_st (T' := T3) (g' := (mkF m 39 #[rv a, rv va, iv (0 : Int32), iv (4 : Int32), .val .null, .unset] [(.ref t3)])) st3 ?_
  clear st3
  refine own_st (T' := T3) (g' := (mkF m 41 #[rv a, rv va, iv (0 : Int32), iv (4 : Int32), .val .null, rv t3] [])) (fun _ k_ => XS.astore X3.here hx rfl (hb hby d4_39) rfl rfl (l' := #[rv a, rv va, iv (0 : Int32), iv (4 : Int32), .val .null, rv t3]) rfl k_) ?_
  refine own_st (T' := T3) (g' := (mkF m 42 #[rv a, rv va, iv (0 : Int32), iv (4 : Int32), .val .null, rv t3] [(.ref a)])) (fun _ k_ => XS.aloadN X3.here hx rfl (hb hby d4_41) rfl rfl  k_) ?_
  refine own_st (T' := T3) (g' := (mkF m 44 #[rv a, rv va, iv (0 : Int32), iv (4 : Int32), .val .null, rv t3] [(.ref t3), (.ref a)])) (fun _ k_ => XS.aload X3.here hx rfl (hb hby d4_42) rfl rfl  k_) ?_
  refine own_st (T' := T3) (g' := (mkF m 45 #[rv a, rv va, iv (0 : Int32), iv (4 : Int32), .val .null, rv t3] [(.int (4 : Int32)), (.ref t3), (.ref a)])) (fun _ k_ => XS.iloadN X3.here hx rfl (hb hby d4_44) rfl  k_) ?_
  have f4 : Old Z n0 T3.heap := O0.keep K3 all0
  obtain ⟨_, T5, L5, X5, hQ5, st5⟩ := own_callS X3 hx (y := own_m4) hown (mvT hZ (hw _ (List.mem_of_getElem? (i := 54) rfl))) (mvT hZ (hw _ (List.mem_of_getElem? (i := 55) rfl))) (mvT hZ (hw _ (List.mem_of_getElem? (i := 49) rfl))) (mvT hZ (hw _ (List.mem_of_getElem? (i := 56) rfl))) (by decide) (backOf (W := 1) (rm_cdr_4 l Z a0 hw [] t3 kb3 [(.int (c0.toInt8.toInt32)), (.int (c1.toInt8.toInt32)), (.int (c2.toInt8.toInt32)), (.int (c3.toInt8.toInt32))] T3.heap n0 f4 fq3_0) hZ (hw _ (List.mem_of_getElem? (i := 56) rfl)) (hw _ (List.mem_of_getElem? (i := 49) rfl)) (by decide) (by decide)) (g := (mkF m 45 #[rv a, rv va, iv (0 : Int32), iv (4 : Int32), .val .null, rv t3] [(.int (4 : Int32)), (.ref t3), (.ref a)])) rfl (by rw [hml]; rfl) (argsL := [(.ref t3), (.int (4 : Int32))]) (rest := [(.ref a)]) (lenOf pd___BI_B rfl) rfl (by show 2 * 0 + _ ≤ _; exact Nat.le_of_eq rfl) (hb hby d4_45) rfl rfl (by decide) (by decide) (c' := 1) (s' := 4) rfl rfl
  obtain ⟨rfl, Nq5, eq5⟩ := hQ5
  have N5 := Fr.app N3 Nq5
  refine own_st (T' := T5) (g' := (mkF m 48 #[rv a, rv va, iv (0 : Int32), iv (4 : Int32), .val .null, rv t3] [(.int (0 : Int32)), (.ref a)])) st5 ?_
  clear st5
  have f6 : Exa Z T3.heap a "java/lang/String" := EA.keep K3
  have f7 : Fld Z T3.heap a "java/lang/String" "coder" "B" (.int (0 : Int32)) := FC.keep K3 nin0
  obtain ⟨T8, h8, X8, e8, W8, st8⟩ := putFN X5 hx hZ hown (hw _ (List.mem_of_getElem? (i := 28) rfl)) Via.refl eq5 f7 f6 (Or.inr ⟨(hw _ (List.mem_of_getElem? (i := 24) rfl)), rfl, hnm⟩) (hw _ (List.mem_of_getElem? (i := 8) rfl)) (ty := .byte) (v' := (.int (0 : Int32))) (by decide) rfl (by decide) (g := (mkF m 48 #[rv a, rv va, iv (0 : Int32), iv (4 : Int32), .val .null, rv t3] [(.int (0 : Int32)), (.ref a)])) rfl rfl (hb hby d4_48)
  have Fw8 : Fld Z h8 a "java/lang/String" "coder" "B" (.int (0 : Int32)) := Fld.same W8 f7
  have N8 := Fr.snoc X8 N5 fa
  refine own_st (T' := T8) (g' := (mkF m 51 #[rv a, rv va, iv (0 : Int32), iv (4 : Int32), .val .null, rv t3] [])) st8 ?_
  clear st8
  refine own_st (T' := T8) (g' := (mkF m 52 #[rv a, rv va, iv (0 : Int32), iv (4 : Int32), .val .null, rv t3] [(.ref a)])) (fun _ k_ => XS.aloadN X8.here hx rfl (hb hby d4_51) rfl rfl  k_) ?_
  refine own_st (T' := T8) (g' := (mkF m 54 #[rv a, rv va, iv (0 : Int32), iv (4 : Int32), .val .null, rv t3] [(.ref t3), (.ref a)])) (fun _ k_ => XS.aload X8.here hx rfl (hb hby d4_52) rfl rfl  k_) ?_
  have f9 : Exa Z h8 a "java/lang/String" := f6.wr W8
  have f10 : Fld Z T3.heap a "java/lang/String" "value" "[B" .null := FV.keep K3 nin0
  have f11 : Fld Z h8 a "java/lang/String" "value" "[B" .null := f10.other W8 (Or.inr (slot_ne (Or.inr (hw _ (List.mem_of_getElem? (i := 23) rfl))) (Or.inr (hw _ (List.mem_of_getElem? (i := 24) rfl))) (by decide) (t := (.array .byte)) (t' := .byte) (by decide) (by decide)))
  obtain ⟨T12, h12, X12, e12, W12, st12⟩ := putF X8 hx hZ hown (host := "") (Or.inl (hw _ (List.mem_of_getElem? (i := 27) rfl))) Via.refl e8 f11 f9 (Or.inr ⟨(hw _ (List.mem_of_getElem? (i := 23) rfl)), rfl, hnm⟩) (hw _ (List.mem_of_getElem? (i := 8) rfl)) (ty := (.array .byte)) (by decide) rfl rfl (g := (mkF m 54 #[rv a, rv va, iv (0 : Int32), iv (4 : Int32), .val .null, rv t3] [(.ref t3), (.ref a)])) rfl rfl (hb hby d4_54)
  have Fw12 : Fld Z h12 a "java/lang/String" "value" "[B" (.ref t3) := Fld.same W12 f11
  have N12 := Fr.snoc X12 N8 fa
  refine own_st (T' := T12) (g' := (mkF m 57 #[rv a, rv va, iv (0 : Int32), iv (4 : Int32), .val .null, rv t3] [])) st12 ?_
  clear st12
  have f13 : Keep h0 T3.heap [a] := (Keep.refl h0 [a]).trans K3 all0
  have f14 : Keep h0 h8 [a] := f13.wr W8 (Or.inl (List.mem_of_getElem? (i := 0) rfl))
  have f15 : Keep h0 h12 [a] := f14.wr W12 (Or.inl (List.mem_of_getElem? (i := 0) rfl))
  have f16 : Exa Z h12 a "java/lang/String" := f9.wr W12
  have f17 : Fld Z h12 a "java/lang/String" "coder" "B" (.int (0 : Int32)) := Fw8.other W12 (Or.inr (slot_ne (Or.inr (hw _ (List.mem_of_getElem? (i := 24) rfl))) (Or.inr (hw _ (List.mem_of_getElem? (i := 23) rfl))) (by decide) (t := .byte) (t' := (.array .byte)) (by decide) (by decide)))
  have ne18 : a ≠ t3 := Nat.ne_of_lt (Nat.lt_of_lt_of_le EA.lt xq3_fresh_t)
  have f19 : Arv Z h8 t3 kb3 .byte (4 : Int32) [(.int (c0.toInt8.toInt32)), (.int (c1.toInt8.toInt32)), (.int (c2.toInt8.toInt32)), (.int (c3.toInt8.toInt32))] (.int (0 : Int32)) := fq3_0.other W8 (Ne.symm ne18)
  have f20 : Arv Z h12 t3 kb3 .byte (4 : Int32) [(.int (c0.toInt8.toInt32)), (.int (c1.toInt8.toInt32)), (.int (c2.toInt8.toInt32)), (.int (c3.toInt8.toInt32))] (.int (0 : Int32)) := f19.other W12 (Ne.symm ne18)
  exact own_retV X12 hx hret hlk (hb hby d4_57) (by decide) (by decide) (by rw [e12]; exact ⟨t3, kb3, rfl, N12, f15, f16, f17, Fw12, f20, (Nat.le_trans (Keep.refl h0 [a]).1 xq3_fresh_t)⟩)
theorem ef_ini1_4 (m : MethodId) (x0 : Addr) (x1 : Addr) : entryFrame m #[(.ref x0), (.ref x1)] 2 = mkF m 0 #[rv x0, rv x1] [] := by first | (simp [entryFrame, mkF, argsToLocals, Value.category]; done) | rfl
def Q_ini1_4 (Z : State) (a : Addr) (va : Addr) (kc : ClassId) (cz : Int32) (c0 : Int32) (c1 : Int32) (c2 : Int32) (c3 : Int32) (h0 : Heap) (n0 : Nat) (v : Option Value) (h : Heap) (L : List Loc) : Prop := ∃ (t : Addr) (kb : ClassId), (v = none) ∧ (Fr n0 L) ∧ (Keep h0 h [a]) ∧ (Exa Z h a "java/lang/String") ∧ (Fld Z h a "java/lang/String" "coder" "B" (.int (0 : Int32))) ∧ (Fld Z h a "java/lang/String" "value" "[B" (.ref t)) ∧ (Arv Z h t kb .byte (4 : Int32) [(.int (c0.toInt8.toInt32)), (.int (c1.toInt8.toInt32)), (.int (c2.toInt8.toInt32)), (.int (c3.toInt8.toInt32))] (.int (0 : Int32))) ∧ (h0.size ≤ t)
set_option maxRecDepth 65536 in
set_option maxHeartbeats 40000000 in
theorem rm_ini1_4 (l : Launch) (Z : State) (a0 : Array Value) (hw : ∀ d ∈ tables_1, d.before a0 Z = true) (ws : List Jvm.Cond) (a : Addr) (va : Addr) (kc : ClassId) (cz : Int32) (c0 : Int32) (c1 : Int32) (c2 : Int32) (c3 : Int32) (h0 : Heap) (n0 : Nat) (O0 : Old Z n0 h0) (EA : Exa Z h0 a "java/lang/String") (FV : Fld Z h0 a "java/lang/String" "value" "[B" .null) (FC : Fld Z h0 a "java/lang/String" "coder" "B" (.int (0 : Int32))) (fa : n0 ≤ a) (VA : Arv Z h0 va kc .char (4 : Int32) [(.int c0), (.int c1), (.int c2), (.int c3)] (.int (0 : Int32))) (SC : Sta Z Z.heap "java/lang/String" "COMPACT_STRINGS" "Z" (.int cz)) (hcz : ¬ cz = (0 : Int32)) (hp0 : ¬ (255 : Int32) < c0) (hp1 : ¬ (255 : Int32) < c1) (hp2 : ¬ (255 : Int32) < c2) (hp3 : ¬ (255 : Int32) < c3) :
    MetFree l own_m1 (head1 (Jvm.Cond.code own_m1 jdk_42_method_3_code 2 none :: ws) ({ frames := 3, cells := 1, slots := 4, locals := 52 } : Room)) (fun ar_ U => ar_ = #[(.ref a), (.ref va)] ∧ Z.Warmed39 U.vm ∧ U.heap = h0) (fun _ _ _ _ _ => True) (fun _ U o U' => ∃ v L, o = .returned v ∧ Q_ini1_4 Z a va kc cz c0 c1 c2 c3 h0 n0 v U'.heap L ∧ FrameEnd U o U' L ({ frames := 3, cells := 1, slots := 4, locals := 52 } : Room).cells ({ frames := 3, cells := 1, slots := 4, locals := 52 } : Room).slots) := by
  refine MetFree.of_bodySF (plainFor_of_name pn_0) hisR ?_
  intro p e s m args below meth c s₁ Bd hml0 hP hK
  obtain ⟨rfl, hZ, hh⟩ := hP
  have hx := Bd.exec
  have hby := Bd.bytes
  have hml : c.maxLocals = 2 := hml0
  have hown : s.vm.findClass "java/lang/String" = some m.cls := findClass_of_methodNamed Bd.named
  have hnm := (name_of_methodNamed Bd.named Bd.method).1
  have X0 : Stand p l e ({ frames := 3, cells := 1, slots := 4, locals := 52 } : Room) s m #[(.ref a), (.ref va)] below meth c s₁ [] 0 0 := Stand.of_body Bd
  have e0 : s₁.heap = h0 := by rw [← hh, Bd.state]; rfl
  have N0 := Fr.nil n0
  have hret := Bd.returns
  have hlk : meth.locks = false := Bd.notSynchronized
  show own_E p e below s ({ frames := 3, cells := 1, slots := 4, locals := 52 } : Room).cells ({ frames := 3, cells := 1, slots := 4, locals := 52 } : Room).slots (Q_ini1_4 Z a va kc cz c0 c1 c2 c3 h0 n0) s₁ (entryFrame m #[(.ref a), (.ref va)] 2)
  rw [ef_ini1_4 m a va]
  refine own_st (T' := s₁) (g' := (mkF m 1 #[rv a, rv va] [(.ref a)])) (fun _ k_ => XS.aloadN X0.here hx rfl (hb hby d3_0) rfl rfl  k_) ?_
  refine own_st (T' := s₁) (g' := (mkF m 2 #[rv a, rv va] [(.ref va), (.ref a)])) (fun _ k_ => XS.aloadN X0.here hx rfl (hb hby d3_1) rfl rfl  k_) ?_
  refine own_st (T' := s₁) (g' := (mkF m 3 #[rv a, rv va] [(.int (0 : Int32)), (.ref va), (.ref a)])) (fun _ k_ => XS.iconst X0.here hx rfl (hb hby d3_2) k_) ?_
  refine own_st (T' := s₁) (g' := (mkF m 4 #[rv a, rv va] [(.ref va), (.int (0 : Int32)), (.ref va), (.ref a)])) (fun _ k_ => XS.aloadN X0.here hx rfl (hb hby d3_3) rfl rfl  k_) ?_
  obtain ⟨cl1, Ar1, -, S1, N1, -, -⟩ := id VA
  refine own_st (T' := s₁) (g' := (mkF m 5 #[rv a, rv va] [(.int (4 : Int32)), (.int (0 : Int32)), (.ref va), (.ref a)])) (fun t_ k_ => X0.arraylength hx (by rw [e0]; exact Ar1.1) (State.isArrayOf_alike hZ.alike Ar1.2.1) (g := (mkF m 4 #[rv a, rv va] [(.ref va), (.int (0 : Int32)), (.ref va), (.ref a)])) rfl rfl (hb hby d3_4) _ (by rw [len_of S1 N1]; exact k_)) ?_
  refine own_st (T' := s₁) (g' := (mkF m 6 #[rv a, rv va] [.null, (.int (4 : Int32)), (.int (0 : Int32)), (.ref va), (.ref a)])) (fun _ k_ => XS.aconstNull X0.here hx rfl (hb hby d3_5) k_) ?_
  obtain ⟨_, T2, L2, X2, hQ2, st2⟩ := own_callI X0 hx (y := own_m0) rfl hown (mvT hZ (hw _ (List.mem_of_getElem? (i := 14) rfl))) (mvT hZ (hw _ (List.mem_of_getElem? (i := 15) rfl))) (mvT hZ (hw _ (List.mem_of_getElem? (i := 17) rfl))) (by decide) (backOf (W := 0) (rm_ini4_4 l Z a0 hw [] a va kc cz c0 c1 c2 c3 h0 n0 O0 EA FV FC fa VA SC hcz hp0 hp1 hp2 hp3) hZ (hw _ (List.mem_of_getElem? (i := 17) rfl)) (hw _ (List.mem_of_getElem? (i := 9) rfl)) (by decide) (by decide)) (g := (mkF m 6 #[rv a, rv va] [.null, (.int (4 : Int32)), (.int (0 : Int32)), (.ref va), (.ref a)])) rfl (by rw [hml]; rfl) (a := a) (argsL := [(.ref va), (.int (0 : Int32)), (.int (4 : Int32)), .null]) (rest := []) (lenOf pd___CIILjava_lang_Void__V rfl) rfl (by show 2 * 0 + _ ≤ _; exact Nat.le_of_eq rfl) (hb hby d3_6) rfl e0 (by decide) (by decide) (c' := 1) (s' := 4) rfl rfl
  obtain ⟨t2, kb2, rfl, Nq2, K2, fq2_0, fq2_1, fq2_2, fq2_3, xq2_fresh_t⟩ := hQ2
  have N2 := Fr.app N0 Nq2
  refine own_st (T' := T2) (g' := (mkF m 9 #[rv a, rv va] [])) st2 ?_
  clear st2
  have f3 : Keep h0 T2.heap [a] := (Keep.refl h0 [a]).trans K2 (allS (Or.inl (List.mem_of_getElem? (i := 0) rfl)) all0)
  exact own_retV X2 hx hret hlk (hb hby d3_9) (by decide) (by decide) ⟨t2, kb2, rfl, N2, f3, fq2_0, fq2_1, fq2_2, fq2_3, (Nat.le_trans (Keep.refl h0 [a]).1 xq2_fresh_t)⟩
def own_H : List Int32 := [48, 49, 50, 51, 52, 53, 54, 55, 56, 57, 97, 98, 99, 100, 101, 102]
def own_draw (x : Int32) : Int32 := if (((x.toUInt32 >>> ((8 : Int32) &&& 31).toUInt32).toInt32) &&& (1 : Int32)) = (0 : Int32) then x &&& 255 else own_H.getD (x &&& 15).toNatClampNeg 0
def own_val (c : Int32) : Int32 := if c < 48 then (if c < 97 then -1 else if 102 < c then -1 else c - 97 + 10) else if 57 < c then (if c < 97 then -1 else if 102 < c then -1 else c - 97 + 10) else c - 48
theorem own_i15 (x : Int32) : ¬ (x &&& 15) < 0 ∧ (x &&& 15).toNatClampNeg < 16 := by
  have e := c_mask x 15 4 (by decide) (by decide)
  have z : ((2 ^ 4 : Nat) : Int) = 16 := rfl
  have z0 : (0 : Int32).toInt = 0 := rfl
  constructor
  · rw [Int32.lt_iff_toInt_lt]; omega
  · simp only [Int32.toNatClampNeg]; omega
theorem own_HR : ∀ c ∈ own_H, ¬ c < 0 ∧ ¬ (255 : Int32) < c := by decide
theorem own_HG (i : Nat) (h : i < 16) : ¬ own_H.getD i 0 < 0 ∧ ¬ (255 : Int32) < own_H.getD i 0 := by
  have : own_H.getD i 0 ∈ own_H := by
    have hl : i < own_H.length := h
    rw [List.getD_eq_getElem?_getD, List.getElem?_eq_getElem hl]; exact List.getElem_mem hl
  exact own_HR _ this
theorem own_dR (x : Int32) : ¬ own_draw x < 0 ∧ ¬ (255 : Int32) < own_draw x := by
  unfold own_draw; split
  · exact own_r255 x
  · exact own_HG _ (own_i15 x).2
theorem own_nch {c : Int32} (h : ¬ c < 0 ∧ ¬ (255 : Int32) < c) : nar .char c = c := by
  obtain ⟨h1, h2⟩ := h
  have k := c_i2c c
  have z0 : (0 : Int32).toInt = 0 := rfl
  have z1 : (255 : Int32).toInt = 255 := rfl
  rw [Int32.lt_iff_toInt_lt] at h1 h2
  show c.toUInt32.toUInt16.toUInt32.toInt32 = c
  exact own_eqI (by omega)
def own_HV (Z : State) (a : Addr) (cl : Cell) : Prop := Arr Z Z.heap a cl .byte ∧ cl.slots.size = 128 ∧ ∀ j : Int32, ¬ j < 0 → j < 128 → cl.slots[j.toNatClampNeg]? = some (.int (own_val j))
theorem own_in128 {cl : Cell} (h : cl.slots.size = 128) {j : Int32} (q0 : ¬ j < 0) (q1 : j < 128) : ¬ (j < 0 ∨ cl.slots.size ≤ j.toNatClampNeg) := by
  have z0 : (0 : Int32).toInt = 0 := rfl
  have z1 : (128 : Int32).toInt = 128 := rfl
  rw [h]; simp only [Int32.lt_iff_toInt_lt, Int32.toNatClampNeg] at *; omega
theorem own_big {c : Int32} (h : ¬ c < 128) : own_val c = -1 := by
  have z1 : (128 : Int32).toInt = 128 := rfl
  have z2 : (48 : Int32).toInt = 48 := rfl
  have z3 : (57 : Int32).toInt = 57 := rfl
  have z4 : (97 : Int32).toInt = 97 := rfl
  have z5 : (102 : Int32).toInt = 102 := rfl
  rw [Int32.lt_iff_toInt_lt] at h
  unfold own_val
  rw [if_neg (by rw [Int32.lt_iff_toInt_lt]; omega), if_pos (by rw [Int32.lt_iff_toInt_lt]; omega), if_neg (by rw [Int32.lt_iff_toInt_lt]; omega), if_pos (by rw [Int32.lt_iff_toInt_lt]; omega)]
theorem own_vR (c : Int32) : -1 ≤ (own_val c).toInt ∧ (own_val c).toInt ≤ 15 := by
  have z2 : (48 : Int32).toInt = 48 := rfl
  have z3 : (57 : Int32).toInt = 57 := rfl
  have z4 : (97 : Int32).toInt = 97 := rfl
  have z5 : (102 : Int32).toInt = 102 := rfl
  have z6 : (-1 : Int32).toInt = -1 := rfl
  have z7 : (10 : Int32).toInt = 10 := rfl
  have k1 := c_isub c 48
  have k2 := c_isub c 97
  have k3 := c_iadd (c - 97) 10
  have b1 := (c - 48).le_toInt; have b2 := (c - 48).toInt_lt
  have b3 := (c - 97).le_toInt; have b4 := (c - 97).toInt_lt
  have b5 := (c - 97 + 10).le_toInt; have b6 := (c - 97 + 10).toInt_lt
  unfold own_val
  repeat' split
  all_goals (simp only [Int32.lt_iff_toInt_lt] at *; omega)
theorem own_or {a b : Int32} (h : ¬ (a ||| b) < 0) : ¬ a < 0 ∧ ¬ b < 0 := by
  obtain ⟨-, q1, q2⟩ := c_orS a b
  have z0 : (0 : Int32).toInt = 0 := rfl
  simp only [Int32.lt_iff_toInt_lt] at *
  exact ⟨fun q => h (q1 (by omega)), fun q => h (q2 (by omega))⟩
theorem own_or2 {a b : Int32} (h : (a ||| b) < 0) (ha : ¬ a < 0) : b < 0 := by
  obtain ⟨q0, -, -⟩ := c_orS a b
  have z0 : (0 : Int32).toInt = 0 := rfl
  simp only [Int32.lt_iff_toInt_lt] at *
  by_cases q : b.toInt < 0
  · omega
  · have := q0 (by omega) (by omega); omega
theorem own_hexb {c d : Int32} (hc : ¬ own_val c < 0) (hd : ¬ own_val d < 0) : ((own_val c <<< ((4 : Int32) &&& 31)) ||| own_val d).toInt8.toInt32 = ((own_val c * 16) + own_val d).toInt8.toInt32 := by
  have r1 := own_vR c; have r2 := own_vR d
  generalize own_val c = a at *
  generalize own_val d = b at *
  have z0 : (0 : Int32).toInt = 0 := rfl
  have z16 : (16 : Int32).toInt = 16 := rfl
  simp only [Int32.lt_iff_toInt_lt] at hc hd
  have k1 := c_ishl a 4 4 (by decide)
  have z4 : ((2 ^ 4 : Nat) : Int) = 16 := rfl
  have b1 := (a <<< ((4 : Int32) &&& 31)).le_toInt; have b2 := (a <<< ((4 : Int32) &&& 31)).toInt_lt
  have e1 : (a <<< ((4 : Int32) &&& 31)).toInt = a.toInt * 16 := by omega
  have k2 := c_or (a <<< ((4 : Int32) &&& 31)) b 4 (by decide) 16 rfl (by omega) (by omega) (by omega)
  have b3 := (a <<< ((4 : Int32) &&& 31) ||| b).le_toInt; have b4 := (a <<< ((4 : Int32) &&& 31) ||| b).toInt_lt
  have k3 := c_imul a 16
  rw [z16] at k3
  have k4 := c_iadd (a * 16) b
  have b5 := (a * 16).le_toInt; have b6 := (a * 16).toInt_lt
  have b7 := (a * 16 + b).le_toInt; have b8 := (a * 16 + b).toInt_lt
  have e : (a <<< ((4 : Int32) &&& 31)) ||| b = a * 16 + b := own_eqI (by omega)
  rw [e]
theorem d1_0 : decode method_3_code 0 = .ok (.iload_n 0, 1) := by decide +kernel
theorem d1_1 : decode method_3_code 1 = .ok (.bipush 8, 2) := by decide +kernel
theorem d1_3 : decode method_3_code 3 = .ok (.iushr, 1) := by decide +kernel
theorem d1_4 : decode method_3_code 4 = .ok (.iconst 1, 1) := by decide +kernel
theorem d1_5 : decode method_3_code 5 = .ok (.iand, 1) := by decide +kernel
theorem d1_6 : decode method_3_code 6 = .ok (.ifCond .eq 13, 3) := by decide +kernel
theorem d1_9 : decode method_3_code 9 = .ok (.ldc 27, 2) := by decide +kernel
theorem d1_11 : decode method_3_code 11 = .ok (.iload_n 0, 1) := by decide +kernel
theorem d1_12 : decode method_3_code 12 = .ok (.bipush 15, 2) := by decide +kernel
theorem d1_14 : decode method_3_code 14 = .ok (.iand, 1) := by decide +kernel
theorem d1_15 : decode method_3_code 15 = .ok (.invokevirtual 29, 3) := by decide +kernel
theorem d1_18 : decode method_3_code 18 = .ok (.ireturn, 1) := by decide +kernel
theorem d1_19 : decode method_3_code 19 = .ok (.iload_n 0, 1) := by decide +kernel
theorem d1_20 : decode method_3_code 20 = .ok (.sipush 255, 3) := by decide +kernel
theorem d1_23 : decode method_3_code 23 = .ok (.iand, 1) := by decide +kernel
theorem d1_24 : decode method_3_code 24 = .ok (.i2c, 1) := by decide +kernel
theorem d1_25 : decode method_3_code 25 = .ok (.ireturn, 1) := by decide +kernel
theorem pd__I_C : parseMethodDescriptor "(I)C" = some ⟨[.int], some .char⟩ := by decide +kernel
theorem pn_2 : plainName "com/example/vouchsafe/vouchsafe/DigestsReadHexPinLaw" = true := by first | (simp [plainName, overriddenIn]; done) | decide +kernel
theorem ef_draw (m : MethodId) (x0 : Int32) : entryFrame m #[(.int x0)] 1 = mkF m 0 #[iv x0] [] := by first | (simp [entryFrame, mkF, argsToLocals, Value.category]; done) | rfl
def Q_draw (Z : State) (x : Int32) (cz : Int32) (fm : Value) (h0 : Heap) (n0 : Nat) (v : Option Value) (h : Heap) (L : List Loc) : Prop := (v = some (.int (own_draw x))) ∧ (Fr n0 L) ∧ (Keep h0 h [])
set_option maxRecDepth 65536 in
set_option maxHeartbeats 40000000 in
theorem rm_draw (l : Launch) (Z : State) (a0 : Array Value) (hw : ∀ d ∈ tables_1, d.before a0 Z = true) (ws : List Jvm.Cond) (x : Int32) (cz : Int32) (fm : Value) (h0 : Heap) (n0 : Nat) (O0 : Old Z n0 h0) (SC : Sta Z Z.heap "java/lang/String" "COMPACT_STRINGS" "Z" (.int cz)) (hcz : ¬ cz = (0 : Int32)) (SF : Sta Z Z.heap "jdk/internal/util/Preconditions" "SIOOBE_FORMATTER" "Ljava/util/function/BiFunction;" fm) (hfm : fm.isRef = true) :
    MetFree l own_m6 (head1 (Jvm.Cond.code own_m6 method_3_code 1 (some .char) :: ws) ({ frames := 4, cells := 2, slots := 68, locals := 53 } : Room)) (fun ar_ U => ar_ = #[(.int x)] ∧ Z.Warmed39 U.vm ∧ U.heap = h0 ∧ CHv Z consts_1 U.vm h0 ∧ ∀ x ∈ ([] : List Addr), Safe Z consts_1 U.vm h0 x) (fun _ _ _ _ _ => True) (fun _ U o U' => ∃ v L, o = .returned v ∧ Q_draw Z x cz fm h0 n0 v U'.heap L ∧ CHr Z consts_1 U.vm U.heap U'.vm U'.heap ∧ ReturnedEndW U o U' L ({ frames := 4, cells := 2, slots := 68, locals := 53 } : Room).cells ({ frames := 4, cells := 2, slots := 68, locals := 53 } : Room).slots) := by
  refine MetFree.of_bodySF (plainFor_of_name pn_2) hisR ?_
  intro p e s m args below meth c s₁ Bd hml0 hP hK
  obtain ⟨rfl, hZ, hh, CH0, SF0⟩ := hP
  have hx := Bd.exec
  have hby := Bd.bytes
  have hml : c.maxLocals = 1 := hml0
  have hown : s.vm.findClass "com/example/vouchsafe/vouchsafe/DigestsReadHexPinLaw" = some m.cls := findClass_of_methodNamed Bd.named
  have hnm := (name_of_methodNamed Bd.named Bd.method).1
  have X0 : Stand p l e ({ frames := 4, cells := 2, slots := 68, locals := 53 } : Room) (s.setVm s.vm) m #[(.int x)] below meth c s₁ [] 0 0 := Stand.of_body Bd
  have e0 : s₁.heap = h0 := by rw [← hh, Bd.state]; rfl
  have N0 := Fr.nil n0
  have hret := Bd.returns
  have hlk : meth.locks = false := Bd.notSynchronized
  have hEL := own_EW hw
  have hZs := hZ
  have howns := hown
  have hS0 : s.Since s.vm s.heap.size := (State.WarmedH.refl s).since _
  have hk0 : s.heap.size ≤ h0.size := Nat.le_of_eq (by rw [hh])
  have CR0 := CHr.refl CH0
  refine own_W0 hh ?_
  show own_W p e below s ({ frames := 4, cells := 2, slots := 68, locals := 53 } : Room).cells ({ frames := 4, cells := 2, slots := 68, locals := 53 } : Room).slots Z consts_1 h0 (Q_draw Z x cz fm h0 n0) s₁ (entryFrame m #[(.int x)] 1)
  rw [ef_draw m x]
  refine own_stW (T' := s₁) (g' := (mkF m 1 #[iv x] [(.int x)])) (fun _ k_ => XS.iloadN X0.here hx rfl (hb hby d1_0) rfl  k_) ?_
  refine own_stW (T' := s₁) (g' := (mkF m 3 #[iv x] [(.int (8 : Int32)), (.int x)])) (fun _ k_ => XS.bipush X0.here hx rfl (hb hby d1_1) k_) ?_
  refine own_stW (T' := s₁) (g' := (mkF m 4 #[iv x] [(.int ((x.toUInt32 >>> ((8 : Int32) &&& 31).toUInt32).toInt32))])) (fun _ k_ => XS.iushr X0.here hx rfl (hb hby d1_3) rfl k_) ?_
  refine own_stW (T' := s₁) (g' := (mkF m 5 #[iv x] [(.int (1 : Int32)), (.int ((x.toUInt32 >>> ((8 : Int32) &&& 31).toUInt32).toInt32))])) (fun _ k_ => XS.iconst X0.here hx rfl (hb hby d1_4) k_) ?_
  refine own_stW (T' := s₁) (g' := (mkF m 6 #[iv x] [(.int (((x.toUInt32 >>> ((8 : Int32) &&& 31).toUInt32).toInt32) &&& (1 : Int32)))])) (fun _ k_ => XS.iand X0.here hx rfl (hb hby d1_5) rfl k_) ?_
  by_cases hc1 : (((x.toUInt32 >>> ((8 : Int32) &&& 31).toUInt32).toInt32) &&& (1 : Int32)) = (0 : Int32)
  · refine own_stW (T' := s₁) (g' := (mkF m 19 #[iv x] [])) (fun _ k_ => XS.ifYes X0.here hx rfl (pc0 := 6) (pc' := 19) rfl (hb hby d1_6) rfl ((if0 _ _).trans (teq hc1).1) (by decide) (by decide) k_) ?_
    refine own_stW (T' := s₁) (g' := (mkF m 20 #[iv x] [(.int x)])) (fun _ k_ => XS.iloadN X0.here hx rfl (hb hby d1_19) rfl  k_) ?_
    refine own_stW (T' := s₁) (g' := (mkF m 23 #[iv x] [(.int (255 : Int32)), (.int x)])) (fun _ k_ => XS.sipush X0.here hx rfl (hb hby d1_20) k_) ?_
    refine own_stW (T' := s₁) (g' := (mkF m 24 #[iv x] [(.int (x &&& (255 : Int32)))])) (fun _ k_ => XS.iand X0.here hx rfl (hb hby d1_23) rfl k_) ?_
    refine own_stW (T' := s₁) (g' := (mkF m 25 #[iv x] [(.int ((x &&& (255 : Int32)).toUInt32.toUInt16.toUInt32.toInt32))])) (fun _ k_ => XS.i2c X0.here hx rfl (hb hby d1_24) rfl k_) ?_
    exact own_retNW X0 hZ hS0 (by rw [e0]; exact hk0) hEL (by rw [e0]; exact CR0) hx (t := .char) hret (by simp) hlk (hb hby d1_25) (by decide) (by decide) (by rw [e0]; exact ⟨congrArg (fun z => some (Value.int z)) (by unfold own_draw; rw [if_pos hc1]; exact own_nc _), N0, (Keep.refl h0 [])⟩)
  · refine own_stW (T' := s₁) (g' := (mkF m 9 #[iv x] [])) (fun _ k_ => XS.ifNo X0.here hx rfl (hb hby d1_6) rfl ((if0 _ _).trans (feq hc1).1) k_) ?_
    obtain ⟨a2, T2, h2, k2, b2, kb2, X2, e2, E2, hS2, hk2, hZ2, hown2, A2, C2, V2, R2, la2, lb2, ch2, Lt2, nl2, st2⟩ := ldcCH X0 hx hZ hown (hw _ (List.mem_of_getElem? (i := 57) rfl)) (own_wS hw) e0 hS0 hk0 hEL (List.mem_of_getElem? (i := 0) rfl) CR0.1 (vs := [(.int (48 : Int32)), (.int (49 : Int32)), (.int (50 : Int32)), (.int (51 : Int32)), (.int (52 : Int32)), (.int (53 : Int32)), (.int (54 : Int32)), (.int (55 : Int32)), (.int (56 : Int32)), (.int (57 : Int32)), (.int (97 : Int32)), (.int (98 : Int32)), (.int (99 : Int32)), (.int (100 : Int32)), (.int (101 : Int32)), (.int (102 : Int32))]) (z := (16 : Int32)) ⟨by decide, by decide⟩ (by decide) (by decide) (g := (mkF m 9 #[iv x] [])) rfl (hb hby d1_9) (n := 64) (by decide) (by decide) (by decide) (by decide)
    have CR3 : CHr Z consts_1 s.vm h0 T2.vm h2 := CR0.trans ch2
    refine own_stW (T' := T2) (g' := (mkF m 11 #[iv x] [(.ref a2)])) st2 ?_
    clear st2
    refine own_stW (T' := T2) (g' := (mkF m 12 #[iv x] [(.int x), (.ref a2)])) (fun _ k_ => XS.iloadN X2.here hx rfl (hb hby d1_11) rfl  k_) ?_
    refine own_stW (T' := T2) (g' := (mkF m 14 #[iv x] [(.int (15 : Int32)), (.int x), (.ref a2)])) (fun _ k_ => XS.bipush X2.here hx rfl (hb hby d1_12) k_) ?_
    refine own_stW (T' := T2) (g' := (mkF m 15 #[iv x] [(.int (x &&& (15 : Int32))), (.ref a2)])) (fun _ k_ => XS.iand X2.here hx rfl (hb hby d1_14) rfl k_) ?_
    have f4 : Old Z n0 h2 := O0.ext E2
    obtain ⟨cq5, kq5, q5a, q5b, q5c⟩ := isOf hZ2 e2 A2
    obtain ⟨v5, T5, L5, X5, ⟨hv5, rfl, eq5⟩, st5⟩ := own_callV X2 hx (y := own_m5) (z := own_m5) hown2 (mvT hZ2 (hw _ (List.mem_of_getElem? (i := 58) rfl))) (mvT hZ2 (hw _ (List.mem_of_getElem? (i := 59) rfl))) (notFace_of_selects (args := #[]) (mvT hZ2 (hw _ (List.mem_of_getElem? (i := 61) rfl)))) (mvT hZ2 (hw _ (List.mem_of_getElem? (i := 61) rfl))) (mvT hZ2 (hw _ (List.mem_of_getElem? (i := 60) rfl))) (by decide) (rm := ({ frames := 0, cells := 0, slots := 0, locals := 0 } : Room)) (Q := fun v h' L => v = some (.int (List.getD own_H ((x &&& (15 : Int32))).toNatClampNeg 0)) ∧ L = [] ∧ h' = h2) (StrChars.Road.chN (W := 0) hZ2 (own_wCh hw) (kI := 4) (hw _ (List.mem_of_getElem? (i := 8) rfl)) A2 V2 C2 R2 (StrChars.Road.codOf (cs := own_H) (n := List.length own_H) rfl (fun c hc => (own_HR c hc).2)) (own_up _ own_HR) (SC.ext f4.2) hcz (SF.ext f4.2) hfm (by decide) (i := ((x &&& (15 : Int32))).toNatClampNeg) (own_i15 _).2 (j := (x &&& (15 : Int32))) (back32 (own_i15 _).1).1.symm (by decide) (by decide)) q5a q5c (g := (mkF m 15 #[iv x] [(.int (x &&& (15 : Int32))), (.ref a2)])) rfl (by rw [hml]; rfl) (argsL := [(.int (x &&& (15 : Int32)))]) (rest := []) (lenOf pd__I_C rfl) rfl (by show 2 * 0 + _ ≤ _; exact Nat.le_of_eq rfl) (hb hby d1_15) rfl e2 (by decide) (by decide) (c' := 2) (s' := 68) rfl rfl
    clear q5a q5b q5c kq5 cq5
    have N5 := Fr.app N0 (Fr.nil n0)
    obtain rfl : v5 = some (.int (List.getD own_H ((x &&& (15 : Int32))).toNatClampNeg 0)) := hv5.trans (congrArg (fun z => some (Value.int z)) rfl)
    refine own_stW (T' := T5) (g' := (mkF m 18 #[iv x] [(.int (List.getD own_H ((x &&& (15 : Int32))).toNatClampNeg 0))])) st5 ?_
    clear st5
    have f6 : Keep h0 h2 [] := (Keep.refl h0 []).ext E2
    exact own_retNW X5 hZ2 hS2 (by rw [eq5]; exact hk2) hEL (by rw [eq5]; exact CR3) hx (t := .char) hret (by simp) hlk (hb hby d1_18) (by decide) (by decide) (by rw [eq5]; exact ⟨congrArg (fun z => some (Value.int z)) (by unfold own_draw; rw [if_neg hc1]; exact own_nch (own_HG _ (own_i15 _).2)), N5, f6⟩)
theorem d9_0 : decode method_4_code 0 = .ok (.iload_n 0, 1) := by decide +kernel
theorem d9_1 : decode method_4_code 1 = .ok (.bipush 48, 2) := by decide +kernel
theorem d9_3 : decode method_4_code 3 = .ok (.if_icmp .lt 14, 3) := by decide +kernel
theorem d9_6 : decode method_4_code 6 = .ok (.iload_n 0, 1) := by decide +kernel
theorem d9_7 : decode method_4_code 7 = .ok (.bipush 57, 2) := by decide +kernel
theorem d9_9 : decode method_4_code 9 = .ok (.if_icmp .gt 8, 3) := by decide +kernel
theorem d9_12 : decode method_4_code 12 = .ok (.iload_n 0, 1) := by decide +kernel
theorem d9_13 : decode method_4_code 13 = .ok (.bipush 48, 2) := by decide +kernel
theorem d9_15 : decode method_4_code 15 = .ok (.isub, 1) := by decide +kernel
theorem d9_16 : decode method_4_code 16 = .ok (.ireturn, 1) := by decide +kernel
theorem d9_17 : decode method_4_code 17 = .ok (.iload_n 0, 1) := by decide +kernel
theorem d9_18 : decode method_4_code 18 = .ok (.bipush 97, 2) := by decide +kernel
theorem d9_20 : decode method_4_code 20 = .ok (.if_icmp .lt 17, 3) := by decide +kernel
theorem d9_23 : decode method_4_code 23 = .ok (.iload_n 0, 1) := by decide +kernel
theorem d9_24 : decode method_4_code 24 = .ok (.bipush 102, 2) := by decide +kernel
theorem d9_26 : decode method_4_code 26 = .ok (.if_icmp .gt 11, 3) := by decide +kernel
theorem d9_29 : decode method_4_code 29 = .ok (.iload_n 0, 1) := by decide +kernel
theorem d9_30 : decode method_4_code 30 = .ok (.bipush 97, 2) := by decide +kernel
theorem d9_32 : decode method_4_code 32 = .ok (.isub, 1) := by decide +kernel
theorem d9_33 : decode method_4_code 33 = .ok (.bipush 10, 2) := by decide +kernel
theorem d9_35 : decode method_4_code 35 = .ok (.iadd, 1) := by decide +kernel
theorem d9_36 : decode method_4_code 36 = .ok (.ireturn, 1) := by decide +kernel
theorem d9_37 : decode method_4_code 37 = .ok (.iconst (-1), 1) := by decide +kernel
theorem d9_38 : decode method_4_code 38 = .ok (.ireturn, 1) := by decide +kernel
theorem ef_val (m : MethodId) (x0 : Int32) : entryFrame m #[(.int x0)] 1 = mkF m 0 #[iv x0] [] := by first | (simp [entryFrame, mkF, argsToLocals, Value.category]; done) | rfl
def Q_val (Z : State) (cc : Int32) (h0 : Heap) (n0 : Nat) (v : Option Value) (h : Heap) (L : List Loc) : Prop := (v = some (.int (own_val cc))) ∧ (Fr n0 L) ∧ (h = h0)
set_option maxRecDepth 65536 in
set_option maxHeartbeats 40000000 in
theorem rm_val (l : Launch) (Z : State) (a0 : Array Value) (hw : ∀ d ∈ tables_1, d.before a0 Z = true) (ws : List Jvm.Cond) (cc : Int32) (h0 : Heap) (n0 : Nat) (O0 : Old Z n0 h0) :
    MetFree l own_m7 (head1 (Jvm.Cond.code own_m7 method_4_code 1 (some .int) :: ws) ({ frames := 0, cells := 0, slots := 0, locals := 0 } : Room)) (fun ar_ U => ar_ = #[(.int cc)] ∧ Z.Warmed39 U.vm ∧ U.heap = h0) (fun _ _ _ _ _ => True) (fun _ U o U' => ∃ v L, o = .returned v ∧ Q_val Z cc h0 n0 v U'.heap L ∧ FrameEnd U o U' L ({ frames := 0, cells := 0, slots := 0, locals := 0 } : Room).cells ({ frames := 0, cells := 0, slots := 0, locals := 0 } : Room).slots) := by
  refine MetFree.of_bodySF (plainFor_of_name pn_2) hisR ?_
  intro p e s m args below meth c s₁ Bd hml0 hP hK
  obtain ⟨rfl, hZ, hh⟩ := hP
  have hx := Bd.exec
  have hby := Bd.bytes
  have hml : c.maxLocals = 1 := hml0
  have hown : s.vm.findClass "com/example/vouchsafe/vouchsafe/DigestsReadHexPinLaw" = some m.cls := findClass_of_methodNamed Bd.named
  have hnm := (name_of_methodNamed Bd.named Bd.method).1
  have X0 : Stand p l e ({ frames := 0, cells := 0, slots := 0, locals := 0 } : Room) s m #[(.int cc)] below meth c s₁ [] 0 0 := Stand.of_body Bd
  have e0 : s₁.heap = h0 := by rw [← hh, Bd.state]; rfl
  have N0 := Fr.nil n0
  have hret := Bd.returns
  have hlk : meth.locks = false := Bd.notSynchronized
  show own_E p e below s ({ frames := 0, cells := 0, slots := 0, locals := 0 } : Room).cells ({ frames := 0, cells := 0, slots := 0, locals := 0 } : Room).slots (Q_val Z cc h0 n0) s₁ (entryFrame m #[(.int cc)] 1)
  rw [ef_val m cc]
  refine own_st (T' := s₁) (g' := (mkF m 1 #[iv cc] [(.int cc)])) (fun _ k_ => XS.iloadN X0.here hx rfl (hb hby d9_0) rfl  k_) ?_
  refine own_st (T' := s₁) (g' := (mkF m 3 #[iv cc] [(.int (48 : Int32)), (.int cc)])) (fun _ k_ => XS.bipush X0.here hx rfl (hb hby d9_1) k_) ?_
  by_cases hc1 : cc < (48 : Int32)
  · refine own_st (T' := s₁) (g' := (mkF m 17 #[iv cc] [])) (fun _ k_ => XS.icmpYes X0.here hx rfl (pc0 := 3) (pc' := 17) rfl (hb hby d9_3) rfl (tlt hc1).1 (by decide) (by decide) k_) ?_
    refine own_st (T' := s₁) (g' := (mkF m 18 #[iv cc] [(.int cc)])) (fun _ k_ => XS.iloadN X0.here hx rfl (hb hby d9_17) rfl  k_) ?_
    refine own_st (T' := s₁) (g' := (mkF m 20 #[iv cc] [(.int (97 : Int32)), (.int cc)])) (fun _ k_ => XS.bipush X0.here hx rfl (hb hby d9_18) k_) ?_
    by_cases hc2 : cc < (97 : Int32)
    · refine own_st (T' := s₁) (g' := (mkF m 37 #[iv cc] [])) (fun _ k_ => XS.icmpYes X0.here hx rfl (pc0 := 20) (pc' := 37) rfl (hb hby d9_20) rfl (tlt hc2).1 (by decide) (by decide) k_) ?_
      refine own_st (T' := s₁) (g' := (mkF m 38 #[iv cc] [(.int (-1 : Int32))])) (fun _ k_ => XS.iconst X0.here hx rfl (hb hby d9_37) k_) ?_
      exact own_retI X0 hx hret hlk (hb hby d9_38) (by decide) (by decide) ⟨congrArg (fun z => some (Value.int z)) (by unfold own_val; rw [if_pos hc1, if_pos hc2]), N0, e0⟩
    · refine own_st (T' := s₁) (g' := (mkF m 23 #[iv cc] [])) (fun _ k_ => XS.icmpNo X0.here hx rfl (hb hby d9_20) rfl (flt hc2).1 k_) ?_
      refine own_st (T' := s₁) (g' := (mkF m 24 #[iv cc] [(.int cc)])) (fun _ k_ => XS.iloadN X0.here hx rfl (hb hby d9_23) rfl  k_) ?_
      refine own_st (T' := s₁) (g' := (mkF m 26 #[iv cc] [(.int (102 : Int32)), (.int cc)])) (fun _ k_ => XS.bipush X0.here hx rfl (hb hby d9_24) k_) ?_
      by_cases hc3 : (102 : Int32) < cc
      · refine own_st (T' := s₁) (g' := (mkF m 37 #[iv cc] [])) (fun _ k_ => XS.icmpYes X0.here hx rfl (pc0 := 26) (pc' := 37) rfl (hb hby d9_26) rfl (tlt hc3).2.2.1 (by decide) (by decide) k_) ?_
        refine own_st (T' := s₁) (g' := (mkF m 38 #[iv cc] [(.int (-1 : Int32))])) (fun _ k_ => XS.iconst X0.here hx rfl (hb hby d9_37) k_) ?_
        exact own_retI X0 hx hret hlk (hb hby d9_38) (by decide) (by decide) ⟨congrArg (fun z => some (Value.int z)) (by unfold own_val; rw [if_pos hc1, if_neg hc2, if_pos hc3]), N0, e0⟩
      · refine own_st (T' := s₁) (g' := (mkF m 29 #[iv cc] [])) (fun _ k_ => XS.icmpNo X0.here hx rfl (hb hby d9_26) rfl (flt hc3).2.2.1 k_) ?_
        refine own_st (T' := s₁) (g' := (mkF m 30 #[iv cc] [(.int cc)])) (fun _ k_ => XS.iloadN X0.here hx rfl (hb hby d9_29) rfl  k_) ?_
        refine own_st (T' := s₁) (g' := (mkF m 32 #[iv cc] [(.int (97 : Int32)), (.int cc)])) (fun _ k_ => XS.bipush X0.here hx rfl (hb hby d9_30) k_) ?_
        refine own_st (T' := s₁) (g' := (mkF m 33 #[iv cc] [(.int (cc - (97 : Int32)))])) (fun _ k_ => XS.isub X0.here hx rfl (hb hby d9_32) rfl k_) ?_
        refine own_st (T' := s₁) (g' := (mkF m 35 #[iv cc] [(.int (10 : Int32)), (.int (cc - (97 : Int32)))])) (fun _ k_ => XS.bipush X0.here hx rfl (hb hby d9_33) k_) ?_
        refine own_st (T' := s₁) (g' := (mkF m 36 #[iv cc] [(.int ((cc - (97 : Int32)) + (10 : Int32)))])) (fun _ k_ => XS.iadd X0.here hx rfl (hb hby d9_35) rfl k_) ?_
        exact own_retI X0 hx hret hlk (hb hby d9_36) (by decide) (by decide) ⟨congrArg (fun z => some (Value.int z)) (by unfold own_val; rw [if_pos hc1, if_neg hc2, if_neg hc3]), N0, e0⟩
  · refine own_st (T' := s₁) (g' := (mkF m 6 #[iv cc] [])) (fun _ k_ => XS.icmpNo X0.here hx rfl (hb hby d9_3) rfl (flt hc1).1 k_) ?_
    refine own_st (T' := s₁) (g' := (mkF m 7 #[iv cc] [(.int cc)])) (fun _ k_ => XS.iloadN X0.here hx rfl (hb hby d9_6) rfl  k_) ?_
    refine own_st (T' := s₁) (g' := (mkF m 9 #[iv cc] [(.int (57 : Int32)), (.int cc)])) (fun _ k_ => XS.bipush X0.here hx rfl (hb hby d9_7) k_) ?_
    by_cases hc4 : (57 : Int32) < cc
    · refine own_st (T' := s₁) (g' := (mkF m 17 #[iv cc] [])) (fun _ k_ => XS.icmpYes X0.here hx rfl (pc0 := 9) (pc' := 17) rfl (hb hby d9_9) rfl (tlt hc4).2.2.1 (by decide) (by decide) k_) ?_
      refine own_st (T' := s₁) (g' := (mkF m 18 #[iv cc] [(.int cc)])) (fun _ k_ => XS.iloadN X0.here hx rfl (hb hby d9_17) rfl  k_) ?_
      refine own_st (T' := s₁) (g' := (mkF m 20 #[iv cc] [(.int (97 : Int32)), (.int cc)])) (fun _ k_ => XS.bipush X0.here hx rfl (hb hby d9_18) k_) ?_
      by_cases hc5 : cc < (97 : Int32)
      · refine own_st (T' := s₁) (g' := (mkF m 37 #[iv cc] [])) (fun _ k_ => XS.icmpYes X0.here hx rfl (pc0 := 20) (pc' := 37) rfl (hb hby d9_20) rfl (tlt hc5).1 (by decide) (by decide) k_) ?_
        refine own_st (T' := s₁) (g' := (mkF m 38 #[iv cc] [(.int (-1 : Int32))])) (fun _ k_ => XS.iconst X0.here hx rfl (hb hby d9_37) k_) ?_
        exact own_retI X0 hx hret hlk (hb hby d9_38) (by decide) (by decide) ⟨congrArg (fun z => some (Value.int z)) (by unfold own_val; rw [if_neg hc1, if_pos hc4, if_pos hc5]), N0, e0⟩
      · refine own_st (T' := s₁) (g' := (mkF m 23 #[iv cc] [])) (fun _ k_ => XS.icmpNo X0.here hx rfl (hb hby d9_20) rfl (flt hc5).1 k_) ?_
        refine own_st (T' := s₁) (g' := (mkF m 24 #[iv cc] [(.int cc)])) (fun _ k_ => XS.iloadN X0.here hx rfl (hb hby d9_23) rfl  k_) ?_
        refine own_st (T' := s₁) (g' := (mkF m 26 #[iv cc] [(.int (102 : Int32)), (.int cc)])) (fun _ k_ => XS.bipush X0.here hx rfl (hb hby d9_24) k_) ?_
        by_cases hc6 : (102 : Int32) < cc
        · refine own_st (T' := s₁) (g' := (mkF m 37 #[iv cc] [])) (fun _ k_ => XS.icmpYes X0.here hx rfl (pc0 := 26) (pc' := 37) rfl (hb hby d9_26) rfl (tlt hc6).2.2.1 (by decide) (by decide) k_) ?_
          refine own_st (T' := s₁) (g' := (mkF m 38 #[iv cc] [(.int (-1 : Int32))])) (fun _ k_ => XS.iconst X0.here hx rfl (hb hby d9_37) k_) ?_
          exact own_retI X0 hx hret hlk (hb hby d9_38) (by decide) (by decide) ⟨congrArg (fun z => some (Value.int z)) (by unfold own_val; rw [if_neg hc1, if_pos hc4, if_neg hc5, if_pos hc6]), N0, e0⟩
        · refine own_st (T' := s₁) (g' := (mkF m 29 #[iv cc] [])) (fun _ k_ => XS.icmpNo X0.here hx rfl (hb hby d9_26) rfl (flt hc6).2.2.1 k_) ?_
          refine own_st (T' := s₁) (g' := (mkF m 30 #[iv cc] [(.int cc)])) (fun _ k_ => XS.iloadN X0.here hx rfl (hb hby d9_29) rfl  k_) ?_
          refine own_st (T' := s₁) (g' := (mkF m 32 #[iv cc] [(.int (97 : Int32)), (.int cc)])) (fun _ k_ => XS.bipush X0.here hx rfl (hb hby d9_30) k_) ?_
          refine own_st (T' := s₁) (g' := (mkF m 33 #[iv cc] [(.int (cc - (97 : Int32)))])) (fun _ k_ => XS.isub X0.here hx rfl (hb hby d9_32) rfl k_) ?_
          refine own_st (T' := s₁) (g' := (mkF m 35 #[iv cc] [(.int (10 : Int32)), (.int (cc - (97 : Int32)))])) (fun _ k_ => XS.bipush X0.here hx rfl (hb hby d9_33) k_) ?_
          refine own_st (T' := s₁) (g' := (mkF m 36 #[iv cc] [(.int ((cc - (97 : Int32)) + (10 : Int32)))])) (fun _ k_ => XS.iadd X0.here hx rfl (hb hby d9_35) rfl k_) ?_
          exact own_retI X0 hx hret hlk (hb hby d9_36) (by decide) (by decide) ⟨congrArg (fun z => some (Value.int z)) (by unfold own_val; rw [if_neg hc1, if_pos hc4, if_neg hc5, if_neg hc6]), N0, e0⟩
    · refine own_st (T' := s₁) (g' := (mkF m 12 #[iv cc] [])) (fun _ k_ => XS.icmpNo X0.here hx rfl (hb hby d9_9) rfl (flt hc4).2.2.1 k_) ?_
      refine own_st (T' := s₁) (g' := (mkF m 13 #[iv cc] [(.int cc)])) (fun _ k_ => XS.iloadN X0.here hx rfl (hb hby d9_12) rfl  k_) ?_
      refine own_st (T' := s₁) (g' := (mkF m 15 #[iv cc] [(.int (48 : Int32)), (.int cc)])) (fun _ k_ => XS.bipush X0.here hx rfl (hb hby d9_13) k_) ?_
      refine own_st (T' := s₁) (g' := (mkF m 16 #[iv cc] [(.int (cc - (48 : Int32)))])) (fun _ k_ => XS.isub X0.here hx rfl (hb hby d9_15) rfl k_) ?_
      exact own_retI X0 hx hret hlk (hb hby d9_16) (by decide) (by decide) ⟨congrArg (fun z => some (Value.int z)) (by unfold own_val; rw [if_neg hc1, if_neg hc4]), N0, e0⟩
theorem d18_0 : decode prog_18_method_10_code 0 = .ok (.iload_n 0, 1) := by decide +kernel
theorem d18_1 : decode prog_18_method_10_code 1 = .ok (.getstatic 97, 3) := by decide +kernel
theorem d18_4 : decode prog_18_method_10_code 4 = .ok (.arraylength, 1) := by decide +kernel
theorem d18_5 : decode prog_18_method_10_code 5 = .ok (.if_icmp .ge 11, 3) := by decide +kernel
theorem d18_8 : decode prog_18_method_10_code 8 = .ok (.getstatic 97, 3) := by decide +kernel
theorem d18_11 : decode prog_18_method_10_code 11 = .ok (.iload_n 0, 1) := by decide +kernel
theorem d18_12 : decode prog_18_method_10_code 12 = .ok (.baload, 1) := by decide +kernel
theorem d18_13 : decode prog_18_method_10_code 13 = .ok (.goto 4, 3) := by decide +kernel
theorem d18_16 : decode prog_18_method_10_code 16 = .ok (.iconst (-1), 1) := by decide +kernel
theorem d18_17 : decode prog_18_method_10_code 17 = .ok (.ireturn, 1) := by decide +kernel
theorem pn_3 : plainName "com/example/vouchsafe/vouchsafe/Digests" = true := by first | (simp [plainName, overriddenIn]; done) | decide +kernel
theorem ef_hexv (m : MethodId) (x0 : Int32) : entryFrame m #[(.int x0)] 1 = mkF m 0 #[iv x0] [] := by first | (simp [entryFrame, mkF, argsToLocals, Value.category]; done) | rfl
def Q_hexv (Z : State) (cc : Int32) (hv_ : Addr) (clV : Cell) (h0 : Heap) (n0 : Nat) (v : Option Value) (h : Heap) (L : List Loc) : Prop := (v = some (.int (own_val cc))) ∧ (Fr n0 L) ∧ (h = h0)
set_option maxRecDepth 65536 in
set_option maxHeartbeats 40000000 in
theorem rm_hexv (l : Launch) (Z : State) (a0 : Array Value) (hw : ∀ d ∈ tables_1, d.before a0 Z = true) (ws : List Jvm.Cond) (cc : Int32) (hv_ : Addr) (clV : Cell) (h0 : Heap) (n0 : Nat) (O0 : Old Z n0 h0) (SV : Sta Z Z.heap "com/example/vouchsafe/vouchsafe/Digests" "HEX_VALUES" "[B" (.ref hv_)) (HV : own_HV Z hv_ clV) (hcc : ¬ cc < 0 ∧ ¬ (255 : Int32) < cc) :
    MetFree l own_m8 (head1 (Jvm.Cond.code own_m8 prog_18_method_10_code 1 (some .int) :: ws) ({ frames := 0, cells := 0, slots := 0, locals := 0 } : Room)) (fun ar_ U => ar_ = #[(.int cc)] ∧ Z.Warmed39 U.vm ∧ U.heap = h0) (fun _ _ _ _ _ => True) (fun _ U o U' => ∃ v L, o = .returned v ∧ Q_hexv Z cc hv_ clV h0 n0 v U'.heap L ∧ FrameEnd U o U' L ({ frames := 0, cells := 0, slots := 0, locals := 0 } : Room).cells ({ frames := 0, cells := 0, slots := 0, locals := 0 } : Room).slots) := by
  refine MetFree.of_bodySF (plainFor_of_name pn_3) hisR ?_
  intro p e s m args below meth c s₁ Bd hml0 hP hK
  obtain ⟨rfl, hZ, hh⟩ := hP
  have hx := Bd.exec
  have hby := Bd.bytes
  have hml : c.maxLocals = 1 := hml0
  have hown : s.vm.findClass "com/example/vouchsafe/vouchsafe/Digests" = some m.cls := findClass_of_methodNamed Bd.named
  have hnm := (name_of_methodNamed Bd.named Bd.method).1
  have X0 : Stand p l e ({ frames := 0, cells := 0, slots := 0, locals := 0 } : Room) s m #[(.int cc)] below meth c s₁ [] 0 0 := Stand.of_body Bd
  have e0 : s₁.heap = h0 := by rw [← hh, Bd.state]; rfl
  have N0 := Fr.nil n0
  have hret := Bd.returns
  have hlk : meth.locks = false := Bd.notSynchronized
  show own_E p e below s ({ frames := 0, cells := 0, slots := 0, locals := 0 } : Room).cells ({ frames := 0, cells := 0, slots := 0, locals := 0 } : Room).slots (Q_hexv Z cc hv_ clV h0 n0) s₁ (entryFrame m #[(.int cc)] 1)
  rw [ef_hexv m cc]
  refine own_st (T' := s₁) (g' := (mkF m 1 #[iv cc] [(.int cc)])) (fun _ k_ => XS.iloadN X0.here hx rfl (hb hby d18_0) rfl  k_) ?_
  obtain ⟨T1, X1, e1, st1⟩ := getS2 X0 hx hZ hown (host := "") (Or.inl (hw _ (List.mem_of_getElem? (i := 84) rfl))) Via.refl e0 (SV.ext O0.2) (g := (mkF m 1 #[iv cc] [(.int cc)])) rfl (hb hby d18_1)
  refine own_st (T' := T1) (g' := (mkF m 4 #[iv cc] [(.ref hv_), (.int cc)])) st1 ?_
  clear st1
  have Ar2 := HV.1.ext O0.2
  refine own_st (T' := T1) (g' := (mkF m 5 #[iv cc] [(.int (128 : Int32)), (.int cc)])) (fun t_ k_ => X1.arraylength hx (by rw [e1]; exact Ar2.1) (State.isArrayOf_alike hZ.alike Ar2.2.1) (g := (mkF m 4 #[iv cc] [(.ref hv_), (.int cc)])) rfl rfl (hb hby d18_4) _ (by rw [show clV.slots.size.toInt32 = (128 : Int32) from by rw [HV.2.1]; rfl]; exact k_)) ?_
  by_cases hc3 : cc < (128 : Int32)
  · refine own_st (T' := T1) (g' := (mkF m 8 #[iv cc] [])) (fun _ k_ => XS.icmpNo X1.here hx rfl (hb hby d18_5) rfl (tlt hc3).2.1 k_) ?_
    obtain ⟨T4, X4, e4, st4⟩ := getS2 X1 hx hZ hown (host := "") (Or.inl (hw _ (List.mem_of_getElem? (i := 84) rfl))) Via.refl e1 (SV.ext O0.2) (g := (mkF m 8 #[iv cc] [])) rfl (hb hby d18_8)
    refine own_st (T' := T4) (g' := (mkF m 11 #[iv cc] [(.ref hv_)])) st4 ?_
    clear st4
    refine own_st (T' := T4) (g' := (mkF m 12 #[iv cc] [(.int cc), (.ref hv_)])) (fun _ k_ => XS.iloadN X4.here hx rfl (hb hby d18_11) rfl  k_) ?_
    have Ar5 := HV.1.ext O0.2
    refine own_st (T' := T4) (g' := (mkF m 13 #[iv cc] [(.int (own_val cc))])) (X4.baloadBytes hx (j := cc) (v := (.int (own_val cc))) (by rw [e4]; exact Ar5.1) (State.isArrayOf_alike hZ.alike Ar5.2.1) Ar5.2.2 (own_in128 HV.2.1 hcc.1 hc3) (HV.2.2 cc hcc.1 hc3) (g := (mkF m 12 #[iv cc] [(.int cc), (.ref hv_)])) rfl rfl (hb hby d18_12)) ?_
    refine own_st (T' := T4) (g' := (mkF m 17 #[iv cc] [(.int (own_val cc))])) (fun _ k_ => XS.goto X4.here hx rfl (pc0 := 13) (pc' := 17) rfl (hb hby d18_13) (by decide) (by decide) k_) ?_
    exact own_retI X4 hx hret hlk (hb hby d18_17) (by decide) (by decide) ⟨rfl, N0, e4⟩
  · refine own_st (T' := T1) (g' := (mkF m 16 #[iv cc] [])) (fun _ k_ => XS.icmpYes X1.here hx rfl (pc0 := 5) (pc' := 16) rfl (hb hby d18_5) rfl (flt hc3).2.1 (by decide) (by decide) k_) ?_
    refine own_st (T' := T1) (g' := (mkF m 17 #[iv cc] [(.int (-1 : Int32))])) (fun _ k_ => XS.iconst X1.here hx rfl (hb hby d18_16) k_) ?_
    exact own_retI X1 hx hret hlk (hb hby d18_17) (by decide) (by decide) ⟨congrArg (fun z => some (Value.int z)) (own_big hc3).symm, N0, e1⟩
def own_txt (nn c0 c1 c2 c3 : Int32) : List Int32 := if nn = 0 then [] else if nn = 1 then [c0] else if nn = 2 then [c0, c1] else if nn = 3 then [c0, c1, c2] else [c0, c1, c2, c3]
theorem own_txR (nn c0 c1 c2 c3 : Int32) (hr0 : ¬ c0 < 0 ∧ ¬ (255 : Int32) < c0) (hr1 : ¬ c1 < 0 ∧ ¬ (255 : Int32) < c1) (hr2 : ¬ c2 < 0 ∧ ¬ (255 : Int32) < c2) (hr3 : ¬ c3 < 0 ∧ ¬ (255 : Int32) < c3) : ∀ c ∈ own_txt nn c0 c1 c2 c3, ¬ c < 0 ∧ ¬ (255 : Int32) < c := by
  intro c hc
  unfold own_txt at hc
  repeat' split at hc
  all_goals (simp only [List.mem_cons, List.not_mem_nil, or_false] at hc)
  · rw [hc]; exact hr0
  · rcases hc with rfl | rfl <;> assumption
  · rcases hc with rfl | rfl | rfl <;> assumption
  · rcases hc with rfl | rfl | rfl | rfl <;> assumption
theorem own_txL (nn c0 c1 c2 c3 : Int32) : (own_txt nn c0 c1 c2 c3).length ≤ 4000 := by
  unfold own_txt; repeat' split
  all_goals exact Nat.le_of_ble_eq_true rfl
theorem own_txN {nn c0 c1 c2 c3 : Int32} (h : nn = 0 ∨ nn = 1 ∨ nn = 2 ∨ nn = 3 ∨ nn = 4) : Int32.ofNat (own_txt nn c0 c1 c2 c3).length = nn := by
  rcases h with rfl | rfl | rfl | rfl | rfl <;> rfl
theorem d2_0 : decode method_5_code 0 = .ok (.iload_n 0, 1) := by decide +kernel
theorem d2_1 : decode method_5_code 1 = .ok (.ifCond .ne 14, 3) := by decide +kernel
theorem d2_4 : decode method_5_code 4 = .ok (.new 30, 3) := by decide +kernel
theorem d2_7 : decode method_5_code 7 = .ok (.dup, 1) := by decide +kernel
theorem d2_8 : decode method_5_code 8 = .ok (.iconst 0, 1) := by decide +kernel
theorem d2_9 : decode method_5_code 9 = .ok (.newarray .char, 2) := by decide +kernel
theorem d2_11 : decode method_5_code 11 = .ok (.invokespecial 34, 3) := by decide +kernel
theorem d2_14 : decode method_5_code 14 = .ok (.areturn, 1) := by decide +kernel
theorem d2_15 : decode method_5_code 15 = .ok (.iload_n 0, 1) := by decide +kernel
theorem d2_16 : decode method_5_code 16 = .ok (.iconst 1, 1) := by decide +kernel
theorem d2_17 : decode method_5_code 17 = .ok (.if_icmp .ne 18, 3) := by decide +kernel
theorem d2_20 : decode method_5_code 20 = .ok (.new 30, 3) := by decide +kernel
theorem d2_23 : decode method_5_code 23 = .ok (.dup, 1) := by decide +kernel
theorem d2_24 : decode method_5_code 24 = .ok (.iconst 1, 1) := by decide +kernel
theorem d2_25 : decode method_5_code 25 = .ok (.newarray .char, 2) := by decide +kernel
theorem d2_27 : decode method_5_code 27 = .ok (.dup, 1) := by decide +kernel
theorem d2_28 : decode method_5_code 28 = .ok (.iconst 0, 1) := by decide +kernel
theorem d2_29 : decode method_5_code 29 = .ok (.iload_n 1, 1) := by decide +kernel
theorem d2_30 : decode method_5_code 30 = .ok (.castore, 1) := by decide +kernel
theorem d2_31 : decode method_5_code 31 = .ok (.invokespecial 34, 3) := by decide +kernel
theorem d2_34 : decode method_5_code 34 = .ok (.areturn, 1) := by decide +kernel
theorem d2_35 : decode method_5_code 35 = .ok (.iload_n 0, 1) := by decide +kernel
theorem d2_36 : decode method_5_code 36 = .ok (.iconst 2, 1) := by decide +kernel
theorem d2_37 : decode method_5_code 37 = .ok (.if_icmp .ne 22, 3) := by decide +kernel
theorem d2_40 : decode method_5_code 40 = .ok (.new 30, 3) := by decide +kernel
theorem d2_43 : decode method_5_code 43 = .ok (.dup, 1) := by decide +kernel
theorem d2_44 : decode method_5_code 44 = .ok (.iconst 2, 1) := by decide +kernel
theorem d2_45 : decode method_5_code 45 = .ok (.newarray .char, 2) := by decide +kernel
theorem d2_47 : decode method_5_code 47 = .ok (.dup, 1) := by decide +kernel
theorem d2_48 : decode method_5_code 48 = .ok (.iconst 0, 1) := by decide +kernel
theorem d2_49 : decode method_5_code 49 = .ok (.iload_n 1, 1) := by decide +kernel
theorem d2_50 : decode method_5_code 50 = .ok (.castore, 1) := by decide +kernel
theorem d2_51 : decode method_5_code 51 = .ok (.dup, 1) := by decide +kernel
theorem d2_52 : decode method_5_code 52 = .ok (.iconst 1, 1) := by decide +kernel
theorem d2_53 : decode method_5_code 53 = .ok (.iload_n 2, 1) := by decide +kernel
theorem d2_54 : decode method_5_code 54 = .ok (.castore, 1) := by decide +kernel
theorem d2_55 : decode method_5_code 55 = .ok (.invokespecial 34, 3) := by decide +kernel
theorem d2_58 : decode method_5_code 58 = .ok (.areturn, 1) := by decide +kernel
theorem d2_59 : decode method_5_code 59 = .ok (.iload_n 0, 1) := by decide +kernel
theorem d2_60 : decode method_5_code 60 = .ok (.iconst 3, 1) := by decide +kernel
theorem d2_61 : decode method_5_code 61 = .ok (.if_icmp .ne 26, 3) := by decide +kernel
theorem d2_64 : decode method_5_code 64 = .ok (.new 30, 3) := by decide +kernel
theorem d2_67 : decode method_5_code 67 = .ok (.dup, 1) := by decide +kernel
theorem d2_68 : decode method_5_code 68 = .ok (.iconst 3, 1) := by decide +kernel
theorem d2_69 : decode method_5_code 69 = .ok (.newarray .char, 2) := by decide +kernel
theorem d2_71 : decode method_5_code 71 = .ok (.dup, 1) := by decide +kernel
theorem d2_72 : decode method_5_code 72 = .ok (.iconst 0, 1) := by decide +kernel
theorem d2_73 : decode method_5_code 73 = .ok (.iload_n 1, 1) := by decide +kernel
theorem d2_74 : decode method_5_code 74 = .ok (.castore, 1) := by decide +kernel
theorem d2_75 : decode method_5_code 75 = .ok (.dup, 1) := by decide +kernel
theorem d2_76 : decode method_5_code 76 = .ok (.iconst 1, 1) := by decide +kernel
theorem d2_77 : decode method_5_code 77 = .ok (.iload_n 2, 1) := by decide +kernel
theorem d2_78 : decode method_5_code 78 = .ok (.castore, 1) := by decide +kernel
theorem d2_79 : decode method_5_code 79 = .ok (.dup, 1) := by decide +kernel
theorem d2_80 : decode method_5_code 80 = .ok (.iconst 2, 1) := by decide +kernel
theorem d2_81 : decode method_5_code 81 = .ok (.iload_n 3, 1) := by decide +kernel
theorem d2_82 : decode method_5_code 82 = .ok (.castore, 1) := by decide +kernel
theorem d2_83 : decode method_5_code 83 = .ok (.invokespecial 34, 3) := by decide +kernel
theorem d2_86 : decode method_5_code 86 = .ok (.areturn, 1) := by decide +kernel
theorem d2_87 : decode method_5_code 87 = .ok (.new 30, 3) := by decide +kernel
theorem d2_90 : decode method_5_code 90 = .ok (.dup, 1) := by decide +kernel
theorem d2_91 : decode method_5_code 91 = .ok (.iconst 4, 1) := by decide +kernel
theorem d2_92 : decode method_5_code 92 = .ok (.newarray .char, 2) := by decide +kernel
theorem d2_94 : decode method_5_code 94 = .ok (.dup, 1) := by decide +kernel
theorem d2_95 : decode method_5_code 95 = .ok (.iconst 0, 1) := by decide +kernel
theorem d2_96 : decode method_5_code 96 = .ok (.iload_n 1, 1) := by decide +kernel
theorem d2_97 : decode method_5_code 97 = .ok (.castore, 1) := by decide +kernel
theorem d2_98 : decode method_5_code 98 = .ok (.dup, 1) := by decide +kernel
theorem d2_99 : decode method_5_code 99 = .ok (.iconst 1, 1) := by decide +kernel
theorem d2_100 : decode method_5_code 100 = .ok (.iload_n 2, 1) := by decide +kernel
theorem d2_101 : decode method_5_code 101 = .ok (.castore, 1) := by decide +kernel
theorem d2_102 : decode method_5_code 102 = .ok (.dup, 1) := by decide +kernel
theorem d2_103 : decode method_5_code 103 = .ok (.iconst 2, 1) := by decide +kernel
theorem d2_104 : decode method_5_code 104 = .ok (.iload_n 3, 1) := by decide +kernel
theorem d2_105 : decode method_5_code 105 = .ok (.castore, 1) := by decide +kernel
theorem d2_106 : decode method_5_code 106 = .ok (.dup, 1) := by decide +kernel
theorem d2_107 : decode method_5_code 107 = .ok (.iconst 3, 1) := by decide +kernel
theorem d2_108 : decode method_5_code 108 = .ok (.iload 4, 2) := by decide +kernel
theorem d2_110 : decode method_5_code 110 = .ok (.castore, 1) := by decide +kernel
theorem d2_111 : decode method_5_code 111 = .ok (.invokespecial 34, 3) := by decide +kernel
theorem d2_114 : decode method_5_code 114 = .ok (.areturn, 1) := by decide +kernel
theorem pd___C_V : parseMethodDescriptor "([C)V" = some ⟨[(.array .char)], none⟩ := by decide +kernel
theorem ef_text (m : MethodId) (x0 : Int32) (x1 : Int32) (x2 : Int32) (x3 : Int32) (x4 : Int32) : entryFrame m #[(.int x0), (.int x1), (.int x2), (.int x3), (.int x4)] 5 = mkF m 0 #[iv x0, iv x1, iv x2, iv x3, iv x4] [] := by first | (simp [entryFrame, mkF, argsToLocals, Value.category]; done) | rfl
def Q_text (Z : State) (nn : Int32) (c0 : Int32) (c1 : Int32) (c2 : Int32) (c3 : Int32) (cz : Int32) (h0 : Heap) (n0 : Nat) (v : Option Value) (h : Heap) (L : List Loc) : Prop := ∃ (b : Addr) (t : Addr) (kb : ClassId), (v = some (.ref b)) ∧ (Fr n0 L) ∧ (Keep h0 h []) ∧ (Exa Z h b "java/lang/String") ∧ (Fld Z h b "java/lang/String" "coder" "B" (.int (0 : Int32))) ∧ (Fld Z h b "java/lang/String" "value" "[B" (.ref t)) ∧ (Arv Z h t kb .byte (Int32.ofNat (own_txt nn c0 c1 c2 c3).length) (((own_txt nn c0 c1 c2 c3).map StrChars.lo8).map Value.int) (.int (0 : Int32))) ∧ (h0.size ≤ b)
set_option maxRecDepth 65536 in
set_option maxHeartbeats 40000000 in
theorem rm_text (l : Launch) (Z : State) (a0 : Array Value) (hw : ∀ d ∈ tables_1, d.before a0 Z = true) (ws : List Jvm.Cond) (nn : Int32) (c0 : Int32) (c1 : Int32) (c2 : Int32) (c3 : Int32) (cz : Int32) (h0 : Heap) (n0 : Nat) (O0 : Old Z n0 h0) (SC : Sta Z Z.heap "java/lang/String" "COMPACT_STRINGS" "Z" (.int cz)) (hcz : ¬ cz = (0 : Int32)) (hr0 : ¬ c0 < 0 ∧ ¬ (255 : Int32) < c0) (hr1 : ¬ c1 < 0 ∧ ¬ (255 : Int32) < c1) (hr2 : ¬ c2 < 0 ∧ ¬ (255 : Int32) < c2) (hr3 : ¬ c3 < 0 ∧ ¬ (255 : Int32) < c3) :
    MetFree l own_m9 (head1 (Jvm.Cond.code own_m9 method_5_code 5 (some (.object "java/lang/String")) :: ws) ({ frames := 4, cells := 6, slots := 12, locals := 66 } : Room)) (fun ar_ U => ar_ = #[(.int nn), (.int c0), (.int c1), (.int c2), (.int c3)] ∧ Z.Warmed39 U.vm ∧ U.heap = h0 ∧ CHv Z consts_1 U.vm h0 ∧ ∀ x ∈ ([] : List Addr), Safe Z consts_1 U.vm h0 x) (fun _ _ _ _ _ => True) (fun _ U o U' => ∃ v L, o = .returned v ∧ Q_text Z nn c0 c1 c2 c3 cz h0 n0 v U'.heap L ∧ CHr Z consts_1 U.vm U.heap U'.vm U'.heap ∧ ReturnedEndW U o U' L ({ frames := 4, cells := 6, slots := 12, locals := 66 } : Room).cells ({ frames := 4, cells := 6, slots := 12, locals := 66 } : Room).slots) := by
  refine MetFree.of_bodySF (plainFor_of_name pn_2) hisR ?_
  intro p e s m args below meth c s₁ Bd hml0 hP hK
  obtain ⟨rfl, hZ, hh, CH0, SF0⟩ := hP
  have hx := Bd.exec
  have hby := Bd.bytes
  have hml : c.maxLocals = 5 := hml0
  have hown : s.vm.findClass "com/example/vouchsafe/vouchsafe/DigestsReadHexPinLaw" = some m.cls := findClass_of_methodNamed Bd.named
  have hnm := (name_of_methodNamed Bd.named Bd.method).1
  have X0 : Stand p l e ({ frames := 4, cells := 6, slots := 12, locals := 66 } : Room) (s.setVm s.vm) m #[(.int nn), (.int c0), (.int c1), (.int c2), (.int c3)] below meth c s₁ [] 0 0 := Stand.of_body Bd
  have e0 : s₁.heap = h0 := by rw [← hh, Bd.state]; rfl
  have N0 := Fr.nil n0
  have hret := Bd.returns
  have hlk : meth.locks = false := Bd.notSynchronized
  have hEL := own_EW hw
  have hZs := hZ
  have howns := hown
  have hS0 : s.Since s.vm s.heap.size := (State.WarmedH.refl s).since _
  have hk0 : s.heap.size ≤ h0.size := Nat.le_of_eq (by rw [hh])
  have CR0 := CHr.refl CH0
  refine own_W0 hh ?_
  show own_W p e below s ({ frames := 4, cells := 6, slots := 12, locals := 66 } : Room).cells ({ frames := 4, cells := 6, slots := 12, locals := 66 } : Room).slots Z consts_1 h0 (Q_text Z nn c0 c1 c2 c3 cz h0 n0) s₁ (entryFrame m #[(.int nn), (.int c0), (.int c1), (.int c2), (.int c3)] 5)
  rw [ef_text m nn c0 c1 c2 c3]
  refine own_stW (T' := s₁) (g' := (mkF m 1 #[iv nn, iv c0, iv c1, iv c2, iv c3] [(.int nn)])) (fun _ k_ => XS.iloadN X0.here hx rfl (hb hby d2_0) rfl  k_) ?_
  by_cases hc1 : nn = (0 : Int32)
  · refine own_stW (T' := s₁) (g' := (mkF m 4 #[iv nn, iv c0, iv c1, iv c2, iv c3] [])) (fun _ k_ => XS.ifNo X0.here hx rfl (hb hby d2_1) rfl ((if0 _ _).trans (teq hc1).2) k_) ?_
    obtain ⟨T2, h2, X2, e2, E2, A2, D2, -, st2⟩ := newO X0 hx hZ hown (hw _ (List.mem_of_getElem? (i := 7) rfl)) (hw _ (List.mem_of_getElem? (i := 8) rfl)) (hw _ (List.mem_of_getElem? (i := 9) rfl)) e0 (g := (mkF m 4 #[iv nn, iv c0, iv c1, iv c2, iv c3] [])) rfl (hb hby d2_4) (by decide) (by decide)
    obtain ⟨b2, g2⟩ : ∃ z, z = h0.size := ⟨_, rfl⟩
    rw [← g2] at A2 D2 st2
    have fr2 : n0 ≤ b2 := Nat.le_trans (own_z O0) (Nat.le_of_eq g2.symm)
    have sz2 : h0.size ≤ b2 := Nat.le_trans (Keep.refl h0 []).1 (Nat.le_of_eq g2.symm)
    have CR3 : CHr Z consts_1 s.vm h0 s.vm h2 := CR0.trans (CHr.ext E2 CR0.1)
    have sf4 : Safe Z consts_1 s.vm h2 b2 := Safe.ext E2 CR0.1 (Safe.new (Nat.le_of_eq g2.symm))
    have F2_value : Fld Z h2 b2 "java/lang/String" "value" "[B" .null := D2 (Or.inr (hw _ (List.mem_of_getElem? (i := 23) rfl))) (ty := (.array .byte)) (by decide)
    have F2_coder : Fld Z h2 b2 "java/lang/String" "coder" "B" (.int (0 : Int32)) := D2 (Or.inr (hw _ (List.mem_of_getElem? (i := 24) rfl))) (ty := .byte) (by decide)
    refine own_stW (T' := T2) (g' := (mkF m 7 #[iv nn, iv c0, iv c1, iv c2, iv c3] [(.ref b2)])) st2 ?_
    clear st2
    refine own_stW (T' := T2) (g' := (mkF m 8 #[iv nn, iv c0, iv c1, iv c2, iv c3] [(.ref b2), (.ref b2)])) (fun _ k_ => XS.dup X2.here hx rfl (hb hby d2_7) rfl rfl k_) ?_
    refine own_stW (T' := T2) (g' := (mkF m 9 #[iv nn, iv c0, iv c1, iv c2, iv c3] [(.int (0 : Int32)), (.ref b2), (.ref b2)])) (fun _ k_ => XS.iconst X2.here hx rfl (hb hby d2_8) k_) ?_
    have f5 : Old Z n0 h2 := O0.ext E2
    have f6 : Keep h0 h2 [] := (Keep.refl h0 []).ext E2
    obtain ⟨T7, h7, k7, X7, e7, E7, A7, st7⟩ := newP X2 hx hZ (hw _ (List.mem_of_getElem? (i := 10) rfl)) e2 (g := (mkF m 9 #[iv nn, iv c0, iv c1, iv c2, iv c3] [(.int (0 : Int32)), (.ref b2), (.ref b2)])) rfl (hb hby d2_9) rfl (by decide) (cap := 0) (by decide) (by decide) (by decide) (by decide)
    obtain ⟨b7, g7⟩ : ∃ z, z = h2.size := ⟨_, rfl⟩
    rw [← g7] at A7 st7
    have fr7 : n0 ≤ b7 := Nat.le_trans (own_z f5) (Nat.le_of_eq g7.symm)
    have sz7 : h0.size ≤ b7 := Nat.le_trans f6.1 (Nat.le_of_eq g7.symm)
    have CR8 : CHr Z consts_1 s.vm h0 s.vm h7 := CR3.trans (CHr.ext E7 CR3.1)
    have sf9 : Safe Z consts_1 s.vm h7 b2 := Safe.ext E7 CR3.1 sf4
    have V7 : Arv Z h7 b7 k7 .char (0 : Int32) [] (.int (0 : Int32)) := Arv.new A7 (by decide)
    refine own_stW (T' := T7) (g' := (mkF m 11 #[iv nn, iv c0, iv c1, iv c2, iv c3] [(.ref b7), (.ref b2), (.ref b2)])) st7 ?_
    clear st7
    have f10 : Exa Z h7 b2 "java/lang/String" := A2.ext E7
    have f11 : Fld Z h7 b2 "java/lang/String" "value" "[B" .null := F2_value.ext E7
    have f12 : Fld Z h7 b2 "java/lang/String" "coder" "B" (.int (0 : Int32)) := F2_coder.ext E7
    have f13 : Old Z n0 h7 := f5.ext E7
    obtain ⟨_, T14, L14, X14, hS14, hQ14, ch14, st14⟩ := own_callIW X7 hx (y := own_m1) rfl hown (mvT hZ (hw _ (List.mem_of_getElem? (i := 11) rfl))) (mvT hZ (hw _ (List.mem_of_getElem? (i := 12) rfl))) (mvT hZ (hw _ (List.mem_of_getElem? (i := 13) rfl))) (by decide) (own_backW (W := 1) (rm_ini1_0 l Z a0 hw [] b2 b7 k7 h7 n0 f13 f10 f11 f12 fr2 V7) hZ (hw _ (List.mem_of_getElem? (i := 13) rfl)) (hw _ (List.mem_of_getElem? (i := 9) rfl)) (by decide) (by decide) hEL CR8.1 (sfS sf9 sf0) (allS (Nat.lt_of_lt_of_le A2.lt E7.1) all0)) (g := (mkF m 11 #[iv nn, iv c0, iv c1, iv c2, iv c3] [(.ref b7), (.ref b2), (.ref b2)])) rfl (by rw [hml]; rfl) (a := b2) (argsL := [(.ref b7)]) (rest := [(.ref b2)]) (lenOf pd___C_V rfl) rfl (by show 2 * 0 + _ ≤ _; exact Nat.le_of_eq rfl) (hb hby d2_11) rfl e7 (by decide) (by decide) (c' := 6) (s' := 12) rfl rfl hS0 (Nat.le_trans (Nat.le_trans hk0 E2.1) E7.1)
    obtain ⟨t14, kb14, rfl, Nq14, K14, fq14_0, fq14_1, fq14_2, fq14_3⟩ := hQ14
    have N14 := Fr.app N0 Nq14
    have CR15 : CHr Z consts_1 s.vm h0 T14.vm T14.heap := CR8.trans ch14
    have sf16 : Safe Z consts_1 T14.vm T14.heap b2 := ch14.safe (Nat.lt_of_lt_of_le A2.lt E7.1) sf9
    have hZ14 : Z.Warmed39 (s.setVm T14.vm).vm := own_hZ hZs hS14
    have hown14 : (s.setVm T14.vm).vm.findClass "com/example/vouchsafe/vouchsafe/DigestsReadHexPinLaw" = some m.cls := own_hown howns hS14
    refine own_stW (T' := T14) (g' := (mkF m 14 #[iv nn, iv c0, iv c1, iv c2, iv c3] [(.ref b2)])) st14 ?_
    clear st14
    have f17 : Keep h0 h7 [] := f6.ext E7
    have f18 : Keep h0 T14.heap [] := f17.trans K14 (allS (Or.inr sz2) all0)
    exact own_retAW X14 hZ14 hS14 (Nat.le_refl _) hEL CR15 hx hret rfl rfl hlk (hb hby d2_14) (by decide) (by decide) ⟨b2, t14, kb14, rfl, N14, f18, fq14_0, fq14_1, fq14_2, (by rw [show own_txt nn c0 c1 c2 c3 = [] from by unfold own_txt; rw [if_pos hc1]]; exact fq14_3), sz2⟩
  · refine own_stW (T' := s₁) (g' := (mkF m 15 #[iv nn, iv c0, iv c1, iv c2, iv c3] [])) (fun _ k_ => XS.ifYes X0.here hx rfl (pc0 := 1) (pc' := 15) rfl (hb hby d2_1) rfl ((if0 _ _).trans (feq hc1).2) (by decide) (by decide) k_) ?_
    refine own_stW (T' := s₁) (g' := (mkF m 16 #[iv nn, iv c0, iv c1, iv c2, iv c3] [(.int nn)])) (fun _ k_ => XS.iloadN X0.here hx rfl (hb hby d2_15) rfl  k_) ?_
    refine own_stW (T' := s₁) (g' := (mkF m 17 #[iv nn, iv c0, iv c1, iv c2, iv c3] [(.int (1 : Int32)), (.int nn)])) (fun _ k_ => XS.iconst X0.here hx rfl (hb hby d2_16) k_) ?_
    by_cases hc19 : nn = (1 : Int32)
    · refine own_stW (T' := s₁) (g' := (mkF m 20 #[iv nn, iv c0, iv c1, iv c2, iv c3] [])) (fun _ k_ => XS.icmpNo X0.here hx rfl (hb hby d2_17) rfl (teq hc19).2 k_) ?_
      obtain ⟨T20, h20, X20, e20, E20, A20, D20, -, st20⟩ := newO X0 hx hZ hown (hw _ (List.mem_of_getElem? (i := 7) rfl)) (hw _ (List.mem_of_getElem? (i := 8) rfl)) (hw _ (List.mem_of_getElem? (i := 9) rfl)) e0 (g := (mkF m 20 #[iv nn, iv c0, iv c1, iv c2, iv c3] [])) rfl (hb hby d2_20) (by decide) (by decide)
      obtain ⟨b20, g20⟩ : ∃ z, z = h0.size := ⟨_, rfl⟩
      rw [← g20] at A20 D20 st20
      have fr20 : n0 ≤ b20 := Nat.le_trans (own_z O0) (Nat.le_of_eq g20.symm)
      have sz20 : h0.size ≤ b20 := Nat.le_trans (Keep.refl h0 []).1 (Nat.le_of_eq g20.symm)
      have CR21 : CHr Z consts_1 s.vm h0 s.vm h20 := CR0.trans (CHr.ext E20 CR0.1)
      have sf22 : Safe Z consts_1 s.vm h20 b20 := Safe.ext E20 CR0.1 (Safe.new (Nat.le_of_eq g20.symm))
      have F20_value : Fld Z h20 b20 "java/lang/String" "value" "[B" .null := D20 (Or.inr (hw _ (List.mem_of_getElem? (i := 23) rfl))) (ty := (.array .byte)) (by decide)
      have F20_coder : Fld Z h20 b20 "java/lang/String" "coder" "B" (.int (0 : Int32)) := D20 (Or.inr (hw _ (List.mem_of_getElem? (i := 24) rfl))) (ty := .byte) (by decide)
      refine own_stW (T' := T20) (g' := (mkF m 23 #[iv nn, iv c0, iv c1, iv c2, iv c3] [(.ref b20)])) st20 ?_
      clear st20
      refine own_stW (T' := T20) (g' := (mkF m 24 #[iv nn, iv c0, iv c1, iv c2, iv c3] [(.ref b20), (.ref b20)])) (fun _ k_ => XS.dup X20.here hx rfl (hb hby d2_23) rfl rfl k_) ?_
      refine own_stW (T' := T20) (g' := (mkF m 25 #[iv nn, iv c0, iv c1, iv c2, iv c3] [(.int (1 : Int32)), (.ref b20), (.ref b20)])) (fun _ k_ => XS.iconst X20.here hx rfl (hb hby d2_24) k_) ?_
      have f23 : Old Z n0 h20 := O0.ext E20
      have f24 : Keep h0 h20 [] := (Keep.refl h0 []).ext E20
      obtain ⟨T25, h25, k25, X25, e25, E25, A25, st25⟩ := newP X20 hx hZ (hw _ (List.mem_of_getElem? (i := 10) rfl)) e20 (g := (mkF m 25 #[iv nn, iv c0, iv c1, iv c2, iv c3] [(.int (1 : Int32)), (.ref b20), (.ref b20)])) rfl (hb hby d2_25) rfl (by decide) (cap := 1) (by decide) (by decide) (by decide) (by decide)
      obtain ⟨b25, g25⟩ : ∃ z, z = h20.size := ⟨_, rfl⟩
      rw [← g25] at A25 st25
      have fr25 : n0 ≤ b25 := Nat.le_trans (own_z f23) (Nat.le_of_eq g25.symm)
      have sz25 : h0.size ≤ b25 := Nat.le_trans f24.1 (Nat.le_of_eq g25.symm)
      have CR26 : CHr Z consts_1 s.vm h0 s.vm h25 := CR21.trans (CHr.ext E25 CR21.1)
      have sf27 : Safe Z consts_1 s.vm h25 b20 := Safe.ext E25 CR21.1 sf22
      have V25 : Arv Z h25 b25 k25 .char (1 : Int32) [(.int (0 : Int32))] (.int (0 : Int32)) := (Arv.new A25 (by decide)).pad (pad_rep [] (.int (0 : Int32)) 1)
      refine own_stW (T' := T25) (g' := (mkF m 27 #[iv nn, iv c0, iv c1, iv c2, iv c3] [(.ref b25), (.ref b20), (.ref b20)])) st25 ?_
      clear st25
      refine own_stW (T' := T25) (g' := (mkF m 28 #[iv nn, iv c0, iv c1, iv c2, iv c3] [(.ref b25), (.ref b25), (.ref b20), (.ref b20)])) (fun _ k_ => XS.dup X25.here hx rfl (hb hby d2_27) rfl rfl k_) ?_
      refine own_stW (T' := T25) (g' := (mkF m 29 #[iv nn, iv c0, iv c1, iv c2, iv c3] [(.int (0 : Int32)), (.ref b25), (.ref b25), (.ref b20), (.ref b20)])) (fun _ k_ => XS.iconst X25.here hx rfl (hb hby d2_28) k_) ?_
      refine own_stW (T' := T25) (g' := (mkF m 30 #[iv nn, iv c0, iv c1, iv c2, iv c3] [(.int c0), (.int (0 : Int32)), (.ref b25), (.ref b25), (.ref b20), (.ref b20)])) (fun _ k_ => XS.iloadN X25.here hx rfl (hb hby d2_29) rfl  k_) ?_
      obtain ⟨cl28, Ar28, q28, S28, N28, H28, G28⟩ := id V25
      have hin28 : ¬ ((0 : Int32) < 0 ∨ cl28.slots.size ≤ ((0 : Int32)).toNatClampNeg) := inb_of S28 ⟨by decide, by decide⟩
      obtain ⟨T29, h29, X29, e29, W29, st29⟩ := stC X25 hx hZ e25 Ar28 (j := (0 : Int32)) hin28 (g := (mkF m 30 #[iv nn, iv c0, iv c1, iv c2, iv c3] [(.int c0), (.int (0 : Int32)), (.ref b25), (.ref b25), (.ref b20), (.ref b20)])) rfl rfl (hb hby d2_30)
      have CR30 : CHr Z consts_1 s.vm h0 s.vm h29 := CR26.trans (CHr.wr W29 (Safe.arv hZ.alike V25 (by decide)) CR26.1)
      have sf31 : Safe Z consts_1 s.vm h29 b20 := Safe.wr W29 (Safe.arv hZ.alike V25 (by decide)) CR26.1 sf27
      have V29 : Arv Z h29 b25 k25 .char (1 : Int32) [(.int (nar .char c0))] (.int (0 : Int32)) := Arv.set Ar28 q28 S28 N28 H28 G28 (fits_nar_char _) W29 0 rfl (Nat.le_of_ble_eq_true rfl)
      have Vn29 : Arv Z h29 b25 k25 .char (1 : Int32) [(.int c0)] (.int (0 : Int32)) := by simpa only [own_nch hr0] using V29
      have Nx29 := Fr.snoc X29 N0 fr25
      refine own_stW (T' := T29) (g' := (mkF m 31 #[iv nn, iv c0, iv c1, iv c2, iv c3] [(.ref b25), (.ref b20), (.ref b20)])) st29 ?_
      clear hin28 G28 H28 N28 S28 q28 Ar28 cl28 st29
      have f32 : Exa Z h25 b20 "java/lang/String" := A20.ext E25
      have f33 : Exa Z h29 b20 "java/lang/String" := f32.wr W29
      have f34 : Fld Z h25 b20 "java/lang/String" "value" "[B" .null := F20_value.ext E25
      have ne35 : b20 ≠ b25 := Nat.ne_of_lt (Nat.lt_of_lt_of_le A20.lt (Nat.le_of_eq g25.symm))
      have f36 : Fld Z h29 b20 "java/lang/String" "value" "[B" .null := f34.other W29 (Or.inl ne35)
      have f37 : Fld Z h25 b20 "java/lang/String" "coder" "B" (.int (0 : Int32)) := F20_coder.ext E25
      have f38 : Fld Z h29 b20 "java/lang/String" "coder" "B" (.int (0 : Int32)) := f37.other W29 (Or.inl ne35)
      have f39 : Old Z n0 h25 := f23.ext E25
      have f40 : Old Z n0 h29 := f39.wr W29 fr25
      have f41 : Keep h0 h25 [] := f24.ext E25
      have f42 : Keep h0 h29 [] := f41.wr W29 (Or.inr sz25)
      obtain ⟨_, T43, L43, X43, hQ43, st43⟩ := own_callI X29 hx (y := own_m1) rfl hown (mvT hZ (hw _ (List.mem_of_getElem? (i := 11) rfl))) (mvT hZ (hw _ (List.mem_of_getElem? (i := 12) rfl))) (mvT hZ (hw _ (List.mem_of_getElem? (i := 13) rfl))) (by decide) (backOf (W := 1) (rm_ini1_1 l Z a0 hw [] b20 b25 k25 cz c0 h29 n0 f40 f33 f36 f38 fr20 Vn29 SC hcz hr0.2) hZ (hw _ (List.mem_of_getElem? (i := 13) rfl)) (hw _ (List.mem_of_getElem? (i := 9) rfl)) (by decide) (by decide)) (g := (mkF m 31 #[iv nn, iv c0, iv c1, iv c2, iv c3] [(.ref b25), (.ref b20), (.ref b20)])) rfl (by rw [hml]; rfl) (a := b20) (argsL := [(.ref b25)]) (rest := [(.ref b20)]) (lenOf pd___C_V rfl) rfl (by show 2 * 0 + _ ≤ _; exact Nat.le_of_eq rfl) (hb hby d2_31) rfl e29 (by decide) (by decide) (c' := 3) (s' := 6) rfl rfl
      obtain ⟨t43, kb43, rfl, Nq43, K43, fq43_0, fq43_1, fq43_2, fq43_3, xq43_fresh_t⟩ := hQ43
      have N43 := Fr.app Nx29 Nq43
      have CR44 : CHr Z consts_1 s.vm h0 s.vm T43.heap := CR30.trans (CHr.keep K43 (sfS sf31 sf0) CR30.1)
      have sf45 : Safe Z consts_1 s.vm T43.heap b20 := Safe.keep K43 (sfS sf31 sf0) CR30.1 sf31
      refine own_stW (T' := T43) (g' := (mkF m 34 #[iv nn, iv c0, iv c1, iv c2, iv c3] [(.ref b20)])) st43 ?_
      clear st43
      have f46 : Keep h0 T43.heap [] := f42.trans K43 (allS (Or.inr sz20) all0)
      exact own_retAW X43 hZ hS0 (Nat.le_trans (Nat.le_trans (Nat.le_trans (Nat.le_trans hk0 E20.1) E25.1) (Nat.le_of_eq (Wr.size W29).symm)) K43.1) hEL CR44 hx hret rfl rfl hlk (hb hby d2_34) (by decide) (by decide) ⟨b20, t43, kb43, rfl, N43, f46, fq43_0, fq43_1, fq43_2, (by rw [show own_txt nn c0 c1 c2 c3 = [c0] from by unfold own_txt; rw [if_neg hc1, if_pos hc19]]; exact fq43_3), sz20⟩
    · refine own_stW (T' := s₁) (g' := (mkF m 35 #[iv nn, iv c0, iv c1, iv c2, iv c3] [])) (fun _ k_ => XS.icmpYes X0.here hx rfl (pc0 := 17) (pc' := 35) rfl (hb hby d2_17) rfl (feq hc19).2 (by decide) (by decide) k_) ?_
      refine own_stW (T' := s₁) (g' := (mkF m 36 #[iv nn, iv c0, iv c1, iv c2, iv c3] [(.int nn)])) (fun _ k_ => XS.iloadN X0.here hx rfl (hb hby d2_35) rfl  k_) ?_
      refine own_stW (T' := s₁) (g' := (mkF m 37 #[iv nn, iv c0, iv c1, iv c2, iv c3] [(.int (2 : Int32)), (.int nn)])) (fun _ k_ => XS.iconst X0.here hx rfl (hb hby d2_36) k_) ?_
      by_cases hc47 : nn = (2 : Int32)
      · refine own_stW (T' := s₁) (g' := (mkF m 40 #[iv nn, iv c0, iv c1, iv c2, iv c3] [])) (fun _ k_ => XS.icmpNo X0.here hx rfl (hb hby d2_37) rfl (teq hc47).2 k_) ?_
        obtain ⟨T48, h48, X48, e48, E48, A48, D48, -, st48⟩ := newO X0 hx hZ hown (hw _ (List.mem_of_getElem? (i := 7) rfl)) (hw _ (List.mem_of_getElem? (i := 8) rfl)) (hw _ (List.mem_of_getElem? (i := 9) rfl)) e0 (g := (mkF m 40 #[iv nn, iv c0, iv c1, iv c2, iv c3] [])) rfl (hb hby d2_40) (by decide) (by decide)
        obtain ⟨b48, g48⟩ : ∃ z, z = h0.size := ⟨_, rfl⟩
        rw [← g48] at A48 D48 st48
        have fr48 : n0 ≤ b48 := Nat.le_trans (own_z O0) (Nat.le_of_eq g48.symm)
        have sz48 : h0.size ≤ b48 := Nat.le_trans (Keep.refl h0 []).1 (Nat.le_of_eq g48.symm)
        have CR49 : CHr Z consts_1 s.vm h0 s.vm h48 := CR0.trans (CHr.ext E48 CR0.1)
        have sf50 : Safe Z consts_1 s.vm h48 b48 := Safe.ext E48 CR0.1 (Safe.new (Nat.le_of_eq g48.symm))
        have F48_value : Fld Z h48 b48 "java/lang/String" "value" "[B" .null := D48 (Or.inr (hw _ (List.mem_of_getElem? (i := 23) rfl))) (ty := (.array .byte)) (by decide)
        have F48_coder : Fld Z h48 b48 "java/lang/String" "coder" "B" (.int (0 : Int32)) := D48 (Or.inr (hw _ (List.mem_of_getElem? (i := 24) rfl))) (ty := .byte) (by decide)
        refine own_stW (T' := T48) (g' := (mkF m 43 #[iv nn, iv c0, iv c1, iv c2, iv c3] [(.ref b48)])) st48 ?_
        clear st48
        refine own_stW (T' := T48) (g' := (mkF m 44 #[iv nn, iv c0, iv c1, iv c2, iv c3] [(.ref b48), (.ref b48)])) (fun _ k_ => XS.dup X48.here hx rfl (hb hby d2_43) rfl rfl k_) ?_
        refine own_stW (T' := T48) (g' := (mkF m 45 #[iv nn, iv c0, iv c1, iv c2, iv c3] [(.int (2 : Int32)), (.ref b48), (.ref b48)])) (fun _ k_ => XS.iconst X48.here hx rfl (hb hby d2_44) k_) ?_
        have f51 : Old Z n0 h48 := O0.ext E48
        have f52 : Keep h0 h48 [] := (Keep.refl h0 []).ext E48
        obtain ⟨T53, h53, k53, X53, e53, E53, A53, st53⟩ := newP X48 hx hZ (hw _ (List.mem_of_getElem? (i := 10) rfl)) e48 (g := (mkF m 45 #[iv nn, iv c0, iv c1, iv c2, iv c3] [(.int (2 : Int32)), (.ref b48), (.ref b48)])) rfl (hb hby d2_45) rfl (by decide) (cap := 2) (by decide) (by decide) (by decide) (by decide)
        obtain ⟨b53, g53⟩ : ∃ z, z = h48.size := ⟨_, rfl⟩
        rw [← g53] at A53 st53
        have fr53 : n0 ≤ b53 := Nat.le_trans (own_z f51) (Nat.le_of_eq g53.symm)
        have sz53 : h0.size ≤ b53 := Nat.le_trans f52.1 (Nat.le_of_eq g53.symm)
        have CR54 : CHr Z consts_1 s.vm h0 s.vm h53 := CR49.trans (CHr.ext E53 CR49.1)
        have sf55 : Safe Z consts_1 s.vm h53 b48 := Safe.ext E53 CR49.1 sf50
        have V53 : Arv Z h53 b53 k53 .char (2 : Int32) [(.int (0 : Int32)), (.int (0 : Int32))] (.int (0 : Int32)) := (Arv.new A53 (by decide)).pad (pad_rep [] (.int (0 : Int32)) 2)
        refine own_stW (T' := T53) (g' := (mkF m 47 #[iv nn, iv c0, iv c1, iv c2, iv c3] [(.ref b53), (.ref b48), (.ref b48)])) st53 ?_
        clear st53
        refine own_stW (T' := T53) (g' := (mkF m 48 #[iv nn, iv c0, iv c1, iv c2, iv c3] [(.ref b53), (.ref b53), (.ref b48), (.ref b48)])) (fun _ k_ => XS.dup X53.here hx rfl (hb hby d2_47) rfl rfl k_) ?_
        refine own_stW (T' := T53) (g' := (mkF m 49 #[iv nn, iv c0, iv c1, iv c2, iv c3] [(.int (0 : Int32)), (.ref b53), (.ref b53), (.ref b48), (.ref b48)])) (fun _ k_ => XS.iconst X53.here hx rfl (hb hby d2_48) k_) ?_
        refine own_stW (T' := T53) (g' := (mkF m 50 #[iv nn, iv c0, iv c1, iv c2, iv c3] [(.int c0), (.int (0 : Int32)), (.ref b53), (.ref b53), (.ref b48), (.ref b48)])) (fun _ k_ => XS.iloadN X53.here hx rfl (hb hby d2_49) rfl  k_) ?_
        obtain ⟨cl56, Ar56, q56, S56, N56, H56, G56⟩ := id V53
        have hin56 : ¬ ((0 : Int32) < 0 ∨ cl56.slots.size ≤ ((0 : Int32)).toNatClampNeg) := inb_of S56 ⟨by decide, by decide⟩
        obtain ⟨T57, h57, X57, e57, W57, st57⟩ := stC X53 hx hZ e53 Ar56 (j := (0 : Int32)) hin56 (g := (mkF m 50 #[iv nn, iv c0, iv c1, iv c2, iv c3] [(.int c0), (.int (0 : Int32)), (.ref b53), (.ref b53), (.ref b48), (.ref b48)])) rfl rfl (hb hby d2_50)
        have CR58 : CHr Z consts_1 s.vm h0 s.vm h57 := CR54.trans (CHr.wr W57 (Safe.arv hZ.alike V53 (by decide)) CR54.1)
        have sf59 : Safe Z consts_1 s.vm h57 b48 := Safe.wr W57 (Safe.arv hZ.alike V53 (by decide)) CR54.1 sf55
        have V57 : Arv Z h57 b53 k53 .char (2 : Int32) [(.int (nar .char c0)), (.int (0 : Int32))] (.int (0 : Int32)) := Arv.set Ar56 q56 S56 N56 H56 G56 (fits_nar_char _) W57 0 rfl (Nat.le_of_ble_eq_true rfl)
        have Vn57 : Arv Z h57 b53 k53 .char (2 : Int32) [(.int c0), (.int (0 : Int32))] (.int (0 : Int32)) := by simpa only [own_nch hr0] using V57
        have Nx57 := Fr.snoc X57 N0 fr53
        refine own_stW (T' := T57) (g' := (mkF m 51 #[iv nn, iv c0, iv c1, iv c2, iv c3] [(.ref b53), (.ref b48), (.ref b48)])) st57 ?_
        clear hin56 G56 H56 N56 S56 q56 Ar56 cl56 st57
        refine own_stW (T' := T57) (g' := (mkF m 52 #[iv nn, iv c0, iv c1, iv c2, iv c3] [(.ref b53), (.ref b53), (.ref b48), (.ref b48)])) (fun _ k_ => XS.dup X57.here hx rfl (hb hby d2_51) rfl rfl k_) ?_
        refine own_stW (T' := T57) (g' := (mkF m 53 #[iv nn, iv c0, iv c1, iv c2, iv c3] [(.int (1 : Int32)), (.ref b53), (.ref b53), (.ref b48), (.ref b48)])) (fun _ k_ => XS.iconst X57.here hx rfl (hb hby d2_52) k_) ?_
        refine own_stW (T' := T57) (g' := (mkF m 54 #[iv nn, iv c0, iv c1, iv c2, iv c3] [(.int c1), (.int (1 : Int32)), (.ref b53), (.ref b53), (.ref b48), (.ref b48)])) (fun _ k_ => XS.iloadN X57.here hx rfl (hb hby d2_53) rfl  k_) ?_
        obtain ⟨cl60, Ar60, q60, S60, N60, H60, G60⟩ := id Vn57
        have hin60 : ¬ ((1 : Int32) < 0 ∨ cl60.slots.size ≤ ((1 : Int32)).toNatClampNeg) := inb_of S60 ⟨by decide, by decide⟩
        obtain ⟨T61, h61, X61, e61, W61, st61⟩ := stC X57 hx hZ e57 Ar60 (j := (1 : Int32)) hin60 (g := (mkF m 54 #[iv nn, iv c0, iv c1, iv c2, iv c3] [(.int c1), (.int (1 : Int32)), (.ref b53), (.ref b53), (.ref b48), (.ref b48)])) rfl rfl (hb hby d2_54)
        have CR62 : CHr Z consts_1 s.vm h0 s.vm h61 := CR58.trans (CHr.wr W61 (Safe.arv hZ.alike Vn57 (by decide)) CR58.1)
        have sf63 : Safe Z consts_1 s.vm h61 b48 := Safe.wr W61 (Safe.arv hZ.alike Vn57 (by decide)) CR58.1 sf59
        have V61 : Arv Z h61 b53 k53 .char (2 : Int32) [(.int c0), (.int (nar .char c1))] (.int (0 : Int32)) := Arv.set Ar60 q60 S60 N60 H60 G60 (fits_nar_char _) W61 1 rfl (Nat.le_of_ble_eq_true rfl)
        have Vn61 : Arv Z h61 b53 k53 .char (2 : Int32) [(.int c0), (.int c1)] (.int (0 : Int32)) := by simpa only [own_nch hr1] using V61
        have Nx61 := Fr.snoc X61 Nx57 fr53
        refine own_stW (T' := T61) (g' := (mkF m 55 #[iv nn, iv c0, iv c1, iv c2, iv c3] [(.ref b53), (.ref b48), (.ref b48)])) st61 ?_
        clear hin60 G60 H60 N60 S60 q60 Ar60 cl60 st61
        have f64 : Exa Z h53 b48 "java/lang/String" := A48.ext E53
        have f65 : Exa Z h57 b48 "java/lang/String" := f64.wr W57
        have f66 : Exa Z h61 b48 "java/lang/String" := f65.wr W61
        have f67 : Fld Z h53 b48 "java/lang/String" "value" "[B" .null := F48_value.ext E53
        have ne68 : b48 ≠ b53 := Nat.ne_of_lt (Nat.lt_of_lt_of_le A48.lt (Nat.le_of_eq g53.symm))
        have f69 : Fld Z h57 b48 "java/lang/String" "value" "[B" .null := f67.other W57 (Or.inl ne68)
        have f70 : Fld Z h61 b48 "java/lang/String" "value" "[B" .null := f69.other W61 (Or.inl ne68)
        have f71 : Fld Z h53 b48 "java/lang/String" "coder" "B" (.int (0 : Int32)) := F48_coder.ext E53
        have f72 : Fld Z h57 b48 "java/lang/String" "coder" "B" (.int (0 : Int32)) := f71.other W57 (Or.inl ne68)
        have f73 : Fld Z h61 b48 "java/lang/String" "coder" "B" (.int (0 : Int32)) := f72.other W61 (Or.inl ne68)
        have f74 : Old Z n0 h53 := f51.ext E53
        have f75 : Old Z n0 h57 := f74.wr W57 fr53
        have f76 : Old Z n0 h61 := f75.wr W61 fr53
        have f77 : Keep h0 h53 [] := f52.ext E53
        have f78 : Keep h0 h57 [] := f77.wr W57 (Or.inr sz53)
        have f79 : Keep h0 h61 [] := f78.wr W61 (Or.inr sz53)
        obtain ⟨_, T80, L80, X80, hQ80, st80⟩ := own_callI X61 hx (y := own_m1) rfl hown (mvT hZ (hw _ (List.mem_of_getElem? (i := 11) rfl))) (mvT hZ (hw _ (List.mem_of_getElem? (i := 12) rfl))) (mvT hZ (hw _ (List.mem_of_getElem? (i := 13) rfl))) (by decide) (backOf (W := 1) (rm_ini1_2 l Z a0 hw [] b48 b53 k53 cz c0 c1 h61 n0 f76 f66 f70 f73 fr48 Vn61 SC hcz hr0.2 hr1.2) hZ (hw _ (List.mem_of_getElem? (i := 13) rfl)) (hw _ (List.mem_of_getElem? (i := 9) rfl)) (by decide) (by decide)) (g := (mkF m 55 #[iv nn, iv c0, iv c1, iv c2, iv c3] [(.ref b53), (.ref b48), (.ref b48)])) rfl (by rw [hml]; rfl) (a := b48) (argsL := [(.ref b53)]) (rest := [(.ref b48)]) (lenOf pd___C_V rfl) rfl (by show 2 * 0 + _ ≤ _; exact Nat.le_of_eq rfl) (hb hby d2_55) rfl e61 (by decide) (by decide) (c' := 3) (s' := 8) rfl rfl
        obtain ⟨t80, kb80, rfl, Nq80, K80, fq80_0, fq80_1, fq80_2, fq80_3, xq80_fresh_t⟩ := hQ80
        have N80 := Fr.app Nx61 Nq80
        have CR81 : CHr Z consts_1 s.vm h0 s.vm T80.heap := CR62.trans (CHr.keep K80 (sfS sf63 sf0) CR62.1)
        have sf82 : Safe Z consts_1 s.vm T80.heap b48 := Safe.keep K80 (sfS sf63 sf0) CR62.1 sf63
        refine own_stW (T' := T80) (g' := (mkF m 58 #[iv nn, iv c0, iv c1, iv c2, iv c3] [(.ref b48)])) st80 ?_
        clear st80
        have f83 : Keep h0 T80.heap [] := f79.trans K80 (allS (Or.inr sz48) all0)
        exact own_retAW X80 hZ hS0 (Nat.le_trans (Nat.le_trans (Nat.le_trans (Nat.le_trans (Nat.le_trans hk0 E48.1) E53.1) (Nat.le_of_eq (Wr.size W57).symm)) (Nat.le_of_eq (Wr.size W61).symm)) K80.1) hEL CR81 hx hret rfl rfl hlk (hb hby d2_58) (by decide) (by decide) ⟨b48, t80, kb80, rfl, N80, f83, fq80_0, fq80_1, fq80_2, (by rw [show own_txt nn c0 c1 c2 c3 = [c0, c1] from by unfold own_txt; rw [if_neg hc1, if_neg hc19, if_pos hc47]]; exact fq80_3), sz48⟩
      · refine own_stW (T' := s₁) (g' := (mkF m 59 #[iv nn, iv c0, iv c1, iv c2, iv c3] [])) (fun _ k_ => XS.icmpYes X0.here hx rfl (pc0 := 37) (pc' := 59) rfl (hb hby d2_37) rfl (feq hc47).2 (by decide) (by decide) k_) ?_
        refine own_stW (T' := s₁) (g' := (mkF m 60 #[iv nn, iv c0, iv c1, iv c2, iv c3] [(.int nn)])) (fun _ k_ => XS.iloadN X0.here hx rfl (hb hby d2_59) rfl  k_) ?_
        refine own_stW (T' := s₁) (g' := (mkF m 61 #[iv nn, iv c0, iv c1, iv c2, iv c3] [(.int (3 : Int32)), (.int nn)])) (fun _ k_ => XS.iconst X0.here hx rfl (hb hby d2_60) k_) ?_
        by_cases hc84 : nn = (3 : Int32)
        · refine own_stW (T' := s₁) (g' := (mkF m 64 #[iv nn, iv c0, iv c1, iv c2, iv c3] [])) (fun _ k_ => XS.icmpNo X0.here hx rfl (hb hby d2_61) rfl (teq hc84).2 k_) ?_
          obtain ⟨T85, h85, X85, e85, E85, A85, D85, -, st85⟩ := newO X0 hx hZ hown (hw _ (List.mem_of_getElem? (i := 7) rfl)) (hw _ (List.mem_of_getElem? (i := 8) rfl)) (hw _ (List.mem_of_getElem? (i := 9) rfl)) e0 (g := (mkF m 64 #[iv nn, iv c0, iv c1, iv c2, iv c3] [])) rfl (hb hby d2_64) (by decide) (by decide)
          obtain ⟨b85, g85⟩ : ∃ z, z = h0.size := ⟨_, rfl⟩
          rw [← g85] at A85 D85 st85
          have fr85 : n0 ≤ b85 := Nat.le_trans (own_z O0) (Nat.le_of_eq g85.symm)
          have sz85 : h0.size ≤ b85 := Nat.le_trans (Keep.refl h0 []).1 (Nat.le_of_eq g85.symm)
          have CR86 : CHr Z consts_1 s.vm h0 s.vm h85 := CR0.trans (CHr.ext E85 CR0.1)
          have sf87 : Safe Z consts_1 s.vm h85 b85 := Safe.ext E85 CR0.1 (Safe.new (Nat.le_of_eq g85.symm))
          have F85_value : Fld Z h85 b85 "java/lang/String" "value" "[B" .null := D85 (Or.inr (hw _ (List.mem_of_getElem? (i := 23) rfl))) (ty := (.array .byte)) (by decide)
          have F85_coder : Fld Z h85 b85 "java/lang/String" "coder" "B" (.int (0 : Int32)) := D85 (Or.inr (hw _ (List.mem_of_getElem? (i := 24) rfl))) (ty := .byte) (by decide)
          refine own_stW (T' := T85) (g' := (mkF m 67 #[iv nn, iv c0, iv c1, iv c2, iv c3] [(.ref b85)])) st85 ?_
          clear st85
          refine own_stW (T' := T85) (g' := (mkF m 68 #[iv nn, iv c0, iv c1, iv c2, iv c3] [(.ref b85), (.ref b85)])) (fun _ k_ => XS.dup X85.here hx rfl (hb hby d2_67) rfl rfl k_) ?_
          refine own_stW (T' := T85) (g' := (mkF m 69 #[iv nn, iv c0, iv c1, iv c2, iv c3] [(.int (3 : Int32)), (.ref b85), (.ref b85)])) (fun _ k_ => XS.iconst X85.here hx rfl (hb hby d2_68) k_) ?_
          have f88 : Old Z n0 h85 := O0.ext E85
          have f89 : Keep h0 h85 [] := (Keep.refl h0 []).ext E85
          obtain ⟨T90, h90, k90, X90, e90, E90, A90, st90⟩ := newP X85 hx hZ (hw _ (List.mem_of_getElem? (i := 10) rfl)) e85 (g := (mkF m 69 #[iv nn, iv c0, iv c1, iv c2, iv c3] [(.int (3 : Int32)), (.ref b85), (.ref b85)])) rfl (hb hby d2_69) rfl (by decide) (cap := 3) (by decide) (by decide) (by decide) (by decide)
          obtain ⟨b90, g90⟩ : ∃ z, z = h85.size := ⟨_, rfl⟩
          rw [← g90] at A90 st90
          have fr90 : n0 ≤ b90 := Nat.le_trans (own_z f88) (Nat.le_of_eq g90.symm)
          have sz90 : h0.size ≤ b90 := Nat.le_trans f89.1 (Nat.le_of_eq g90.symm)
          have CR91 : CHr Z consts_1 s.vm h0 s.vm h90 := CR86.trans (CHr.ext E90 CR86.1)
          have sf92 : Safe Z consts_1 s.vm h90 b85 := Safe.ext E90 CR86.1 sf87
          have V90 : Arv Z h90 b90 k90 .char (3 : Int32) [(.int (0 : Int32)), (.int (0 : Int32)), (.int (0 : Int32))] (.int (0 : Int32)) := (Arv.new A90 (by decide)).pad (pad_rep [] (.int (0 : Int32)) 3)
          refine own_stW (T' := T90) (g' := (mkF m 71 #[iv nn, iv c0, iv c1, iv c2, iv c3] [(.ref b90), (.ref b85), (.ref b85)])) st90 ?_
          clear st90
          refine own_stW (T' := T90) (g' := (mkF m 72 #[iv nn, iv c0, iv c1, iv c2, iv c3] [(.ref b90), (.ref b90), (.ref b85), (.ref b85)])) (fun _ k_ => XS.dup X90.here hx rfl (hb hby d2_71) rfl rfl k_) ?_
          refine own_stW (T' := T90) (g' := (mkF m 73 #[iv nn, iv c0, iv c1, iv c2, iv c3] [(.int (0 : Int32)), (.ref b90), (.ref b90), (.ref b85), (.ref b85)])) (fun _ k_ => XS.iconst X90.here hx rfl (hb hby d2_72) k_) ?_
          refine own_stW (T' := T90) (g' := (mkF m 74 #[iv nn, iv c0, iv c1, iv c2, iv c3] [(.int c0), (.int (0 : Int32)), (.ref b90), (.ref b90), (.ref b85), (.ref b85)])) (fun _ k_ => XS.iloadN X90.here hx rfl (hb hby d2_73) rfl  k_) ?_
          obtain ⟨cl93, Ar93, q93, S93, N93, H93, G93⟩ := id V90
          have hin93 : ¬ ((0 : Int32) < 0 ∨ cl93.slots.size ≤ ((0 : Int32)).toNatClampNeg) := inb_of S93 ⟨by decide, by decide⟩
          obtain ⟨T94, h94, X94, e94, W94, st94⟩ := stC X90 hx hZ e90 Ar93 (j := (0 : Int32)) hin93 (g := (mkF m 74 #[iv nn, iv c0, iv c1, iv c2, iv c3] [(.int c0), (.int (0 : Int32)), (.ref b90), (.ref b90), (.ref b85), (.ref b85)])) rfl rfl (hb hby d2_74)
          have CR95 : CHr Z consts_1 s.vm h0 s.vm h94 := CR91.trans (CHr.wr W94 (Safe.arv hZ.alike V90 (by decide)) CR91.1)
          have sf96 : Safe Z consts_1 s.vm h94 b85 := Safe.wr W94 (Safe.arv hZ.alike V90 (by decide)) CR91.1 sf92
          have V94 : Arv Z h94 b90 k90 .char (3 : Int32) [(.int (nar .char c0)), (.int (0 : Int32)), (.int (0 : Int32))] (.int (0 : Int32)) := Arv.set Ar93 q93 S93 N93 H93 G93 (fits_nar_char _) W94 0 rfl (Nat.le_of_ble_eq_true rfl)
          have Vn94 : Arv Z h94 b90 k90 .char (3 : Int32) [(.int c0), (.int (0 : Int32)), (.int (0 : Int32))] (.int (0 : Int32)) := by simpa only [own_nch hr0] using V94
          have Nx94 := Fr.snoc X94 N0 fr90
          refine own_stW (T' := T94) (g' := (mkF m 75 #[iv nn, iv c0, iv c1, iv c2, iv c3] [(.ref b90), (.ref b85), (.ref b85)])) st94 ?_
          clear hin93 G93 H93 N93 S93 q93 Ar93 cl93 st94
          refine own_stW (T' := T94) (g' := (mkF m 76 #[iv nn, iv c0, iv c1, iv c2, iv c3] [(.ref b90), (.ref b90), (.ref b85), (.ref b85)])) (fun _ k_ => XS.dup X94.here hx rfl (hb hby d2_75) rfl rfl k_) ?_
          refine own_stW (T' := T94) (g' := (mkF m 77 #[iv nn, iv c0, iv c1, iv c2, iv c3] [(.int (1 : Int32)), (.ref b90), (.ref b90), (.ref b85), (.ref b85)])) (fun _ k_ => XS.iconst X94.here hx rfl (hb hby d2_76) k_) ?_
          refine own_stW (T' := T94) (g' := (mkF m 78 #[iv nn, iv c0, iv c1, iv c2, iv c3] [(.int c1), (.int (1 : Int32)), (.ref b90), (.ref b90), (.ref b85), (.ref b85)])) (fun _ k_ => XS.iloadN X94.here hx rfl (hb hby d2_77) rfl  k_) ?_
          obtain ⟨cl97, Ar97, q97, S97, N97, H97, G97⟩ := id Vn94
          have hin97 : ¬ ((1 : Int32) < 0 ∨ cl97.slots.size ≤ ((1 : Int32)).toNatClampNeg) := inb_of S97 ⟨by decide, by decide⟩
          obtain ⟨T98, h98, X98, e98, W98, st98⟩ := stC X94 hx hZ e94 Ar97 (j := (1 : Int32)) hin97 (g := (mkF m 78 #[iv nn, iv c0, iv c1, iv c2, iv c3] [(.int c1), (.int (1 : Int32)), (.ref b90), (.ref b90), (.ref b85), (.ref b85)])) rfl rfl (hb hby d2_78)
          have CR99 : CHr Z consts_1 s.vm h0 s.vm h98 := CR95.trans (CHr.wr W98 (Safe.arv hZ.alike Vn94 (by decide)) CR95.1)
          have sf100 : Safe Z consts_1 s.vm h98 b85 := Safe.wr W98 (Safe.arv hZ.alike Vn94 (by decide)) CR95.1 sf96
          have V98 : Arv Z h98 b90 k90 .char (3 : Int32) [(.int c0), (.int (nar .char c1)), (.int (0 : Int32))] (.int (0 : Int32)) := Arv.set Ar97 q97 S97 N97 H97 G97 (fits_nar_char _) W98 1 rfl (Nat.le_of_ble_eq_true rfl)
          have Vn98 : Arv Z h98 b90 k90 .char (3 : Int32) [(.int c0), (.int c1), (.int (0 : Int32))] (.int (0 : Int32)) := by simpa only [own_nch hr1] using V98
          have Nx98 := Fr.snoc X98 Nx94 fr90
          refine own_stW (T' := T98) (g' := (mkF m 79 #[iv nn, iv c0, iv c1, iv c2, iv c3] [(.ref b90), (.ref b85), (.ref b85)])) st98 ?_
          clear hin97 G97 H97 N97 S97 q97 Ar97 cl97 st98
          refine own_stW (T' := T98) (g' := (mkF m 80 #[iv nn, iv c0, iv c1, iv c2, iv c3] [(.ref b90), (.ref b90), (.ref b85), (.ref b85)])) (fun _ k_ => XS.dup X98.here hx rfl (hb hby d2_79) rfl rfl k_) ?_
          refine own_stW (T' := T98) (g' := (mkF m 81 #[iv nn, iv c0, iv c1, iv c2, iv c3] [(.int (2 : Int32)), (.ref b90), (.ref b90), (.ref b85), (.ref b85)])) (fun _ k_ => XS.iconst X98.here hx rfl (hb hby d2_80) k_) ?_
          refine own_stW (T' := T98) (g' := (mkF m 82 #[iv nn, iv c0, iv c1, iv c2, iv c3] [(.int c2), (.int (2 : Int32)), (.ref b90), (.ref b90), (.ref b85), (.ref b85)])) (fun _ k_ => XS.iloadN X98.here hx rfl (hb hby d2_81) rfl  k_) ?_
          obtain ⟨cl101, Ar101, q101, S101, N101, H101, G101⟩ := id Vn98
          have hin101 : ¬ ((2 : Int32) < 0 ∨ cl101.slots.size ≤ ((2 : Int32)).toNatClampNeg) := inb_of S101 ⟨by decide, by decide⟩
          obtain ⟨T102, h102, X102, e102, W102, st102⟩ := stC X98 hx hZ e98 Ar101 (j := (2 : Int32)) hin101 (g := (mkF m 82 #[iv nn, iv c0, iv c1, iv c2, iv c3] [(.int c2), (.int (2 : Int32)), (.ref b90), (.ref b90), (.ref b85), (.ref b85)])) rfl rfl (hb hby d2_82)
          have CR103 : CHr Z consts_1 s.vm h0 s.vm h102 := CR99.trans (CHr.wr W102 (Safe.arv hZ.alike Vn98 (by decide)) CR99.1)
          have sf104 : Safe Z consts_1 s.vm h102 b85 := Safe.wr W102 (Safe.arv hZ.alike Vn98 (by decide)) CR99.1 sf100
          have V102 : Arv Z h102 b90 k90 .char (3 : Int32) [(.int c0), (.int c1), (.int (nar .char c2))] (.int (0 : Int32)) := Arv.set Ar101 q101 S101 N101 H101 G101 (fits_nar_char _) W102 2 rfl (Nat.le_of_ble_eq_true rfl)
          have Vn102 : Arv Z h102 b90 k90 .char (3 : Int32) [(.int c0), (.int c1), (.int c2)] (.int (0 : Int32)) := by simpa only [own_nch hr2] using V102
          have Nx102 := Fr.snoc X102 Nx98 fr90
          refine own_stW (T' := T102) (g' := (mkF m 83 #[iv nn, iv c0, iv c1, iv c2, iv c3] [(.ref b90), (.ref b85), (.ref b85)])) st102 ?_
          clear hin101 G101 H101 N101 S101 q101 Ar101 cl101 st102
          have f105 : Exa Z h90 b85 "java/lang/String" := A85.ext E90
          have f106 : Exa Z h94 b85 "java/lang/String" := f105.wr W94
          have f107 : Exa Z h98 b85 "java/lang/String" := f106.wr W98
          have f108 : Exa Z h102 b85 "java/lang/String" := f107.wr W102
          have f109 : Fld Z h90 b85 "java/lang/String" "value" "[B" .null := F85_value.ext E90
          have ne110 : b85 ≠ b90 := Nat.ne_of_lt (Nat.lt_of_lt_of_le A85.lt (Nat.le_of_eq g90.symm))
          have f111 : Fld Z h94 b85 "java/lang/String" "value" "[B" .null := f109.other W94 (Or.inl ne110)
          have f112 : Fld Z h98 b85 "java/lang/String" "value" "[B" .null := f111.other W98 (Or.inl ne110)
          have f113 : Fld Z h102 b85 "java/lang/String" "value" "[B" .null := f112.other W102 (Or.inl ne110)
          have f114 : Fld Z h90 b85 "java/lang/String" "coder" "B" (.int (0 : Int32)) := F85_coder.ext E90
          have f115 : Fld Z h94 b85 "java/lang/String" "coder" "B" (.int (0 : Int32)) := f114.other W94 (Or.inl ne110)
          have f116 : Fld Z h98 b85 "java/lang/String" "coder" "B" (.int (0 : Int32)) := f115.other W98 (Or.inl ne110)
          have f117 : Fld Z h102 b85 "java/lang/String" "coder" "B" (.int (0 : Int32)) := f116.other W102 (Or.inl ne110)
          have f118 : Old Z n0 h90 := f88.ext E90
          have f119 : Old Z n0 h94 := f118.wr W94 fr90
          have f120 : Old Z n0 h98 := f119.wr W98 fr90
          have f121 : Old Z n0 h102 := f120.wr W102 fr90
          have f122 : Keep h0 h90 [] := f89.ext E90
          have f123 : Keep h0 h94 [] := f122.wr W94 (Or.inr sz90)
          have f124 : Keep h0 h98 [] := f123.wr W98 (Or.inr sz90)
          have f125 : Keep h0 h102 [] := f124.wr W102 (Or.inr sz90)
          obtain ⟨_, T126, L126, X126, hQ126, st126⟩ := own_callI X102 hx (y := own_m1) rfl hown (mvT hZ (hw _ (List.mem_of_getElem? (i := 11) rfl))) (mvT hZ (hw _ (List.mem_of_getElem? (i := 12) rfl))) (mvT hZ (hw _ (List.mem_of_getElem? (i := 13) rfl))) (by decide) (backOf (W := 1) (rm_ini1_3 l Z a0 hw [] b85 b90 k90 cz c0 c1 c2 h102 n0 f121 f108 f113 f117 fr85 Vn102 SC hcz hr0.2 hr1.2 hr2.2) hZ (hw _ (List.mem_of_getElem? (i := 13) rfl)) (hw _ (List.mem_of_getElem? (i := 9) rfl)) (by decide) (by decide)) (g := (mkF m 83 #[iv nn, iv c0, iv c1, iv c2, iv c3] [(.ref b90), (.ref b85), (.ref b85)])) rfl (by rw [hml]; rfl) (a := b85) (argsL := [(.ref b90)]) (rest := [(.ref b85)]) (lenOf pd___C_V rfl) rfl (by show 2 * 0 + _ ≤ _; exact Nat.le_of_eq rfl) (hb hby d2_83) rfl e102 (by decide) (by decide) (c' := 3) (s' := 10) rfl rfl
          obtain ⟨t126, kb126, rfl, Nq126, K126, fq126_0, fq126_1, fq126_2, fq126_3, xq126_fresh_t⟩ := hQ126
          have N126 := Fr.app Nx102 Nq126
          have CR127 : CHr Z consts_1 s.vm h0 s.vm T126.heap := CR103.trans (CHr.keep K126 (sfS sf104 sf0) CR103.1)
          have sf128 : Safe Z consts_1 s.vm T126.heap b85 := Safe.keep K126 (sfS sf104 sf0) CR103.1 sf104
          refine own_stW (T' := T126) (g' := (mkF m 86 #[iv nn, iv c0, iv c1, iv c2, iv c3] [(.ref b85)])) st126 ?_
          clear st126
          have f129 : Keep h0 T126.heap [] := f125.trans K126 (allS (Or.inr sz85) all0)
          exact own_retAW X126 hZ hS0 (Nat.le_trans (Nat.le_trans (Nat.le_trans (Nat.le_trans (Nat.le_trans (Nat.le_trans hk0 E85.1) E90.1) (Nat.le_of_eq (Wr.size W94).symm)) (Nat.le_of_eq (Wr.size W98).symm)) (Nat.le_of_eq (Wr.size W102).symm)) K126.1) hEL CR127 hx hret rfl rfl hlk (hb hby d2_86) (by decide) (by decide) ⟨b85, t126, kb126, rfl, N126, f129, fq126_0, fq126_1, fq126_2, (by rw [show own_txt nn c0 c1 c2 c3 = [c0, c1, c2] from by unfold own_txt; rw [if_neg hc1, if_neg hc19, if_neg hc47, if_pos hc84]]; exact fq126_3), sz85⟩
        · refine own_stW (T' := s₁) (g' := (mkF m 87 #[iv nn, iv c0, iv c1, iv c2, iv c3] [])) (fun _ k_ => XS.icmpYes X0.here hx rfl (pc0 := 61) (pc' := 87) rfl (hb hby d2_61) rfl (feq hc84).2 (by decide) (by decide) k_) ?_
          obtain ⟨T130, h130, X130, e130, E130, A130, D130, -, st130⟩ := newO X0 hx hZ hown (hw _ (List.mem_of_getElem? (i := 7) rfl)) (hw _ (List.mem_of_getElem? (i := 8) rfl)) (hw _ (List.mem_of_getElem? (i := 9) rfl)) e0 (g := (mkF m 87 #[iv nn, iv c0, iv c1, iv c2, iv c3] [])) rfl (hb hby d2_87) (by decide) (by decide)
          obtain ⟨b130, g130⟩ : ∃ z, z = h0.size := ⟨_, rfl⟩
          rw [← g130] at A130 D130 st130
          have fr130 : n0 ≤ b130 := Nat.le_trans (own_z O0) (Nat.le_of_eq g130.symm)
          have sz130 : h0.size ≤ b130 := Nat.le_trans (Keep.refl h0 []).1 (Nat.le_of_eq g130.symm)
          have CR131 : CHr Z consts_1 s.vm h0 s.vm h130 := CR0.trans (CHr.ext E130 CR0.1)
          have sf132 : Safe Z consts_1 s.vm h130 b130 := Safe.ext E130 CR0.1 (Safe.new (Nat.le_of_eq g130.symm))
          have F130_value : Fld Z h130 b130 "java/lang/String" "value" "[B" .null := D130 (Or.inr (hw _ (List.mem_of_getElem? (i := 23) rfl))) (ty := (.array .byte)) (by decide)
          have F130_coder : Fld Z h130 b130 "java/lang/String" "coder" "B" (.int (0 : Int32)) := D130 (Or.inr (hw _ (List.mem_of_getElem? (i := 24) rfl))) (ty := .byte) (by decide)
          refine own_stW (T' := T130) (g' := (mkF m 90 #[iv nn, iv c0, iv c1, iv c2, iv c3] [(.ref b130)])) st130 ?_
          clear st130
          refine own_stW (T' := T130) (g' := (mkF m 91 #[iv nn, iv c0, iv c1, iv c2, iv c3] [(.ref b130), (.ref b130)])) (fun _ k_ => XS.dup X130.here hx rfl (hb hby d2_90) rfl rfl k_) ?_
          refine own_stW (T' := T130) (g' := (mkF m 92 #[iv nn, iv c0, iv c1, iv c2, iv c3] [(.int (4 : Int32)), (.ref b130), (.ref b130)])) (fun _ k_ => XS.iconst X130.here hx rfl (hb hby d2_91) k_) ?_
          have f133 : Old Z n0 h130 := O0.ext E130
          have f134 : Keep h0 h130 [] := (Keep.refl h0 []).ext E130
          obtain ⟨T135, h135, k135, X135, e135, E135, A135, st135⟩ := newP X130 hx hZ (hw _ (List.mem_of_getElem? (i := 10) rfl)) e130 (g := (mkF m 92 #[iv nn, iv c0, iv c1, iv c2, iv c3] [(.int (4 : Int32)), (.ref b130), (.ref b130)])) rfl (hb hby d2_92) rfl (by decide) (cap := 4) (by decide) (by decide) (by decide) (by decide)
          obtain ⟨b135, g135⟩ : ∃ z, z = h130.size := ⟨_, rfl⟩
          rw [← g135] at A135 st135
          have fr135 : n0 ≤ b135 := Nat.le_trans (own_z f133) (Nat.le_of_eq g135.symm)
          have sz135 : h0.size ≤ b135 := Nat.le_trans f134.1 (Nat.le_of_eq g135.symm)
          have CR136 : CHr Z consts_1 s.vm h0 s.vm h135 := CR131.trans (CHr.ext E135 CR131.1)
          have sf137 : Safe Z consts_1 s.vm h135 b130 := Safe.ext E135 CR131.1 sf132
          have V135 : Arv Z h135 b135 k135 .char (4 : Int32) [(.int (0 : Int32)), (.int (0 : Int32)), (.int (0 : Int32)), (.int (0 : Int32))] (.int (0 : Int32)) := (Arv.new A135 (by decide)).pad (pad_rep [] (.int (0 : Int32)) 4)
          refine own_stW (T' := T135) (g' := (mkF m 94 #[iv nn, iv c0, iv c1, iv c2, iv c3] [(.ref b135), (.ref b130), (.ref b130)])) st135 ?_
          clear st135
          refine own_stW (T' := T135) (g' := (mkF m 95 #[iv nn, iv c0, iv c1, iv c2, iv c3] [(.ref b135), (.ref b135), (.ref b130), (.ref b130)])) (fun _ k_ => XS.dup X135.here hx rfl (hb hby d2_94) rfl rfl k_) ?_
          refine own_stW (T' := T135) (g' := (mkF m 96 #[iv nn, iv c0, iv c1, iv c2, iv c3] [(.int (0 : Int32)), (.ref b135), (.ref b135), (.ref b130), (.ref b130)])) (fun _ k_ => XS.iconst X135.here hx rfl (hb hby d2_95) k_) ?_
          refine own_stW (T' := T135) (g' := (mkF m 97 #[iv nn, iv c0, iv c1, iv c2, iv c3] [(.int c0), (.int (0 : Int32)), (.ref b135), (.ref b135), (.ref b130), (.ref b130)])) (fun _ k_ => XS.iloadN X135.here hx rfl (hb hby d2_96) rfl  k_) ?_
          obtain ⟨cl138, Ar138, q138, S138, N138, H138, G138⟩ := id V135
          have hin138 : ¬ ((0 : Int32) < 0 ∨ cl138.slots.size ≤ ((0 : Int32)).toNatClampNeg) := inb_of S138 ⟨by decide, by decide⟩
          obtain ⟨T139, h139, X139, e139, W139, st139⟩ := stC X135 hx hZ e135 Ar138 (j := (0 : Int32)) hin138 (g := (mkF m 97 #[iv nn, iv c0, iv c1, iv c2, iv c3] [(.int c0), (.int (0 : Int32)), (.ref b135), (.ref b135), (.ref b130), (.ref b130)])) rfl rfl (hb hby d2_97)
          have CR140 : CHr Z consts_1 s.vm h0 s.vm h139 := CR136.trans (CHr.wr W139 (Safe.arv hZ.alike V135 (by decide)) CR136.1)
          have sf141 : Safe Z consts_1 s.vm h139 b130 := Safe.wr W139 (Safe.arv hZ.alike V135 (by decide)) CR136.1 sf137
          have V139 : Arv Z h139 b135 k135 .char (4 : Int32) [(.int (nar .char c0)), (.int (0 : Int32)), (.int (0 : Int32)), (.int (0 : Int32))] (.int (0 : Int32)) := Arv.set Ar138 q138 S138 N138 H138 G138 (fits_nar_char _) W139 0 rfl (Nat.le_of_ble_eq_true rfl)
          have Vn139 : Arv Z h139 b135 k135 .char (4 : Int32) [(.int c0), (.int (0 : Int32)), (.int (0 : Int32)), (.int (0 : Int32))] (.int (0 : Int32)) := by simpa only [own_nch hr0] using V139
          have Nx139 := Fr.snoc X139 N0 fr135
          refine own_stW (T' := T139) (g' := (mkF m 98 #[iv nn, iv c0, iv c1, iv c2, iv c3] [(.ref b135), (.ref b130), (.ref b130)])) st139 ?_
          clear hin138 G138 H138 N138 S138 q138 Ar138 cl138 st139
          refine own_stW (T' := T139) (g' := (mkF m 99 #[iv nn, iv c0, iv c1, iv c2, iv c3] [(.ref b135), (.ref b135), (.ref b130), (.ref b130)])) (fun _ k_ => XS.dup X139.here hx rfl (hb hby d2_98) rfl rfl k_) ?_
          refine own_stW (T' := T139) (g' := (mkF m 100 #[iv nn, iv c0, iv c1, iv c2, iv c3] [(.int (1 : Int32)), (.ref b135), (.ref b135), (.ref b130), (.ref b130)])) (fun _ k_ => XS.iconst X139.here hx rfl (hb hby d2_99) k_) ?_
          refine own_stW (T' := T139) (g' := (mkF m 101 #[iv nn, iv c0, iv c1, iv c2, iv c3] [(.int c1), (.int (1 : Int32)), (.ref b135), (.ref b135), (.ref b130), (.ref b130)])) (fun _ k_ => XS.iloadN X139.here hx rfl (hb hby d2_100) rfl  k_) ?_
          obtain ⟨cl142, Ar142, q142, S142, N142, H142, G142⟩ := id Vn139
          have hin142 : ¬ ((1 : Int32) < 0 ∨ cl142.slots.size ≤ ((1 : Int32)).toNatClampNeg) := inb_of S142 ⟨by decide, by decide⟩
          obtain ⟨T143, h143, X143, e143, W143, st143⟩ := stC X139 hx hZ e139 Ar142 (j := (1 : Int32)) hin142 (g := (mkF m 101 #[iv nn, iv c0, iv c1, iv c2, iv c3] [(.int c1), (.int (1 : Int32)), (.ref b135), (.ref b135), (.ref b130), (.ref b130)])) rfl rfl (hb hby d2_101)
          have CR144 : CHr Z consts_1 s.vm h0 s.vm h143 := CR140.trans (CHr.wr W143 (Safe.arv hZ.alike Vn139 (by decide)) CR140.1)
          have sf145 : Safe Z consts_1 s.vm h143 b130 := Safe.wr W143 (Safe.arv hZ.alike Vn139 (by decide)) CR140.1 sf141
          have V143 : Arv Z h143 b135 k135 .char (4 : Int32) [(.int c0), (.int (nar .char c1)), (.int (0 : Int32)), (.int (0 : Int32))] (.int (0 : Int32)) := Arv.set Ar142 q142 S142 N142 H142 G142 (fits_nar_char _) W143 1 rfl (Nat.le_of_ble_eq_true rfl)
          have Vn143 : Arv Z h143 b135 k135 .char (4 : Int32) [(.int c0), (.int c1), (.int (0 : Int32)), (.int (0 : Int32))] (.int (0 : Int32)) := by simpa only [own_nch hr1] using V143
          have Nx143 := Fr.snoc X143 Nx139 fr135
          refine own_stW (T' := T143) (g' := (mkF m 102 #[iv nn, iv c0, iv c1, iv c2, iv c3] [(.ref b135), (.ref b130), (.ref b130)])) st143 ?_
          clear hin142 G142 H142 N142 S142 q142 Ar142 cl142 st143
          refine own_stW (T' := T143) (g' := (mkF m 103 #[iv nn, iv c0, iv c1, iv c2, iv c3] [(.ref b135), (.ref b135), (.ref b130), (.ref b130)])) (fun _ k_ => XS.dup X143.here hx rfl (hb hby d2_102) rfl rfl k_) ?_
          refine own_stW (T' := T143) (g' := (mkF m 104 #[iv nn, iv c0, iv c1, iv c2, iv c3] [(.int (2 : Int32)), (.ref b135), (.ref b135), (.ref b130), (.ref b130)])) (fun _ k_ => XS.iconst X143.here hx rfl (hb hby d2_103) k_) ?_
          refine own_stW (T' := T143) (g' := (mkF m 105 #[iv nn, iv c0, iv c1, iv c2, iv c3] [(.int c2), (.int (2 : Int32)), (.ref b135), (.ref b135), (.ref b130), (.ref b130)])) (fun _ k_ => XS.iloadN X143.here hx rfl (hb hby d2_104) rfl  k_) ?_
          obtain ⟨cl146, Ar146, q146, S146, N146, H146, G146⟩ := id Vn143
          have hin146 : ¬ ((2 : Int32) < 0 ∨ cl146.slots.size ≤ ((2 : Int32)).toNatClampNeg) := inb_of S146 ⟨by decide, by decide⟩
          obtain ⟨T147, h147, X147, e147, W147, st147⟩ := stC X143 hx hZ e143 Ar146 (j := (2 : Int32)) hin146 (g := (mkF m 105 #[iv nn, iv c0, iv c1, iv c2, iv c3] [(.int c2), (.int (2 : Int32)), (.ref b135), (.ref b135), (.ref b130), (.ref b130)])) rfl rfl (hb hby d2_105)
          have CR148 : CHr Z consts_1 s.vm h0 s.vm h147 := CR144.trans (CHr.wr W147 (Safe.arv hZ.alike Vn143 (by decide)) CR144.1)
          have sf149 : Safe Z consts_1 s.vm h147 b130 := Safe.wr W147 (Safe.arv hZ.alike Vn143 (by decide)) CR144.1 sf145
          have V147 : Arv Z h147 b135 k135 .char (4 : Int32) [(.int c0), (.int c1), (.int (nar .char c2)), (.int (0 : Int32))] (.int (0 : Int32)) := Arv.set Ar146 q146 S146 N146 H146 G146 (fits_nar_char _) W147 2 rfl (Nat.le_of_ble_eq_true rfl)
          have Vn147 : Arv Z h147 b135 k135 .char (4 : Int32) [(.int c0), (.int c1), (.int c2), (.int (0 : Int32))] (.int (0 : Int32)) := by simpa only [own_nch hr2] using V147
          have Nx147 := Fr.snoc X147 Nx143 fr135
          refine own_stW (T' := T147) (g' := (mkF m 106 #[iv nn, iv c0, iv c1, iv c2, iv c3] [(.ref b135), (.ref b130), (.ref b130)])) st147 ?_
          clear hin146 G146 H146 N146 S146 q146 Ar146 cl146 st147
          refine own_stW (T' := T147) (g' := (mkF m 107 #[iv nn, iv c0, iv c1, iv c2, iv c3] [(.ref b135), (.ref b135), (.ref b130), (.ref b130)])) (fun _ k_ => XS.dup X147.here hx rfl (hb hby d2_106) rfl rfl k_) ?_
          refine own_stW (T' := T147) (g' := (mkF m 108 #[iv nn, iv c0, iv c1, iv c2, iv c3] [(.int (3 : Int32)), (.ref b135), (.ref b135), (.ref b130), (.ref b130)])) (fun _ k_ => XS.iconst X147.here hx rfl (hb hby d2_107) k_) ?_
          refine own_stW (T' := T147) (g' := (mkF m 110 #[iv nn, iv c0, iv c1, iv c2, iv c3] [(.int c3), (.int (3 : Int32)), (.ref b135), (.ref b135), (.ref b130), (.ref b130)])) (fun _ k_ => XS.iload X147.here hx rfl (hb hby d2_108) rfl  k_) ?_
          obtain ⟨cl150, Ar150, q150, S150, N150, H150, G150⟩ := id Vn147
          have hin150 : ¬ ((3 : Int32) < 0 ∨ cl150.slots.size ≤ ((3 : Int32)).toNatClampNeg) := inb_of S150 ⟨by decide, by decide⟩
          obtain ⟨T151, h151, X151, e151, W151, st151⟩ := stC X147 hx hZ e147 Ar150 (j := (3 : Int32)) hin150 (g := (mkF m 110 #[iv nn, iv c0, iv c1, iv c2, iv c3] [(.int c3), (.int (3 : Int32)), (.ref b135), (.ref b135), (.ref b130), (.ref b130)])) rfl rfl (hb hby d2_110)
          have CR152 : CHr Z consts_1 s.vm h0 s.vm h151 := CR148.trans (CHr.wr W151 (Safe.arv hZ.alike Vn147 (by decide)) CR148.1)
          have sf153 : Safe Z consts_1 s.vm h151 b130 := Safe.wr W151 (Safe.arv hZ.alike Vn147 (by decide)) CR148.1 sf149
          have V151 : Arv Z h151 b135 k135 .char (4 : Int32) [(.int c0), (.int c1), (.int c2), (.int (nar .char c3))] (.int (0 : Int32)) := Arv.set Ar150 q150 S150 N150 H150 G150 (fits_nar_char _) W151 3 rfl (Nat.le_of_ble_eq_true rfl)
          have Vn151 : Arv Z h151 b135 k135 .char (4 : Int32) [(.int c0), (.int c1), (.int c2), (.int c3)] (.int (0 : Int32)) := by simpa only [own_nch hr3] using V151
          have Nx151 := Fr.snoc X151 Nx147 fr135
          refine own_stW (T' := T151) (g' := (mkF m 111 #[iv nn, iv c0, iv c1, iv c2, iv c3] [(.ref b135), (.ref b130), (.ref b130)])) st151 ?_
          clear hin150 G150 H150 N150 S150 q150 Ar150 cl150 st151
          have f154 : Exa Z h135 b130 "java/lang/String" := A130.ext E135
          have f155 : Exa Z h139 b130 "java/lang/String" := f154.wr W139
          have f156 : Exa Z h143 b130 "java/lang/String" := f155.wr W143
          have f157 : Exa Z h147 b130 "java/lang/String" := f156.wr W147
          have f158 : Exa Z h151 b130 "java/lang/String" := f157.wr W151
          have f159 : Fld Z h135 b130 "java/lang/String" "value" "[B" .null := F130_value.ext E135
          have ne160 : b130 ≠ b135 := Nat.ne_of_lt (Nat.lt_of_lt_of_le A130.lt (Nat.le_of_eq g135.symm))
          have f161 : Fld Z h139 b130 "java/lang/String" "value" "[B" .null := f159.other W139 (Or.inl ne160)
          have f162 : Fld Z h143 b130 "java/lang/String" "value" "[B" .null := f161.other W143 (Or.inl ne160)
          have f163 : Fld Z h147 b130 "java/lang/String" "value" "[B" .null := f162.other W147 (Or.inl ne160)
          have f164 : Fld Z h151 b130 "java/lang/String" "value" "[B" .null := f163.other W151 (Or.inl ne160)
          have f165 : Fld Z h135 b130 "java/lang/String" "coder" "B" (.int (0 : Int32)) := F130_coder.ext E135
          have f166 : Fld Z h139 b130 "java/lang/String" "coder" "B" (.int (0 : Int32)) := f165.other W139 (Or.inl ne160)
          have f167 : Fld Z h143 b130 "java/lang/String" "coder" "B" (.int (0 : Int32)) := f166.other W143 (Or.inl ne160)
          have f168 : Fld Z h147 b130 "java/lang/String" "coder" "B" (.int (0 : Int32)) := f167.other W147 (Or.inl ne160)
          have f169 : Fld Z h151 b130 "java/lang/String" "coder" "B" (.int (0 : Int32)) := f168.other W151 (Or.inl ne160)
          have f170 : Old Z n0 h135 := f133.ext E135
          have f171 : Old Z n0 h139 := f170.wr W139 fr135
          have f172 : Old Z n0 h143 := f171.wr W143 fr135
          have f173 : Old Z n0 h147 := f172.wr W147 fr135
          have f174 : Old Z n0 h151 := f173.wr W151 fr135
          have f175 : Keep h0 h135 [] := f134.ext E135
          have f176 : Keep h0 h139 [] := f175.wr W139 (Or.inr sz135)
          have f177 : Keep h0 h143 [] := f176.wr W143 (Or.inr sz135)
          have f178 : Keep h0 h147 [] := f177.wr W147 (Or.inr sz135)
          have f179 : Keep h0 h151 [] := f178.wr W151 (Or.inr sz135)
          obtain ⟨_, T180, L180, X180, hQ180, st180⟩ := own_callI X151 hx (y := own_m1) rfl hown (mvT hZ (hw _ (List.mem_of_getElem? (i := 11) rfl))) (mvT hZ (hw _ (List.mem_of_getElem? (i := 12) rfl))) (mvT hZ (hw _ (List.mem_of_getElem? (i := 13) rfl))) (by decide) (backOf (W := 1) (rm_ini1_4 l Z a0 hw [] b130 b135 k135 cz c0 c1 c2 c3 h151 n0 f174 f158 f164 f169 fr130 Vn151 SC hcz hr0.2 hr1.2 hr2.2 hr3.2) hZ (hw _ (List.mem_of_getElem? (i := 13) rfl)) (hw _ (List.mem_of_getElem? (i := 9) rfl)) (by decide) (by decide)) (g := (mkF m 111 #[iv nn, iv c0, iv c1, iv c2, iv c3] [(.ref b135), (.ref b130), (.ref b130)])) rfl (by rw [hml]; rfl) (a := b130) (argsL := [(.ref b135)]) (rest := [(.ref b130)]) (lenOf pd___C_V rfl) rfl (by show 2 * 0 + _ ≤ _; exact Nat.le_of_eq rfl) (hb hby d2_111) rfl e151 (by decide) (by decide) (c' := 3) (s' := 12) rfl rfl
          obtain ⟨t180, kb180, rfl, Nq180, K180, fq180_0, fq180_1, fq180_2, fq180_3, xq180_fresh_t⟩ := hQ180
          have N180 := Fr.app Nx151 Nq180
          have CR181 : CHr Z consts_1 s.vm h0 s.vm T180.heap := CR152.trans (CHr.keep K180 (sfS sf153 sf0) CR152.1)
          have sf182 : Safe Z consts_1 s.vm T180.heap b130 := Safe.keep K180 (sfS sf153 sf0) CR152.1 sf153
          refine own_stW (T' := T180) (g' := (mkF m 114 #[iv nn, iv c0, iv c1, iv c2, iv c3] [(.ref b130)])) st180 ?_
          clear st180
          have f183 : Keep h0 T180.heap [] := f179.trans K180 (allS (Or.inr sz130) all0)
          exact own_retAW X180 hZ hS0 (Nat.le_trans (Nat.le_trans (Nat.le_trans (Nat.le_trans (Nat.le_trans (Nat.le_trans (Nat.le_trans hk0 E130.1) E135.1) (Nat.le_of_eq (Wr.size W139).symm)) (Nat.le_of_eq (Wr.size W143).symm)) (Nat.le_of_eq (Wr.size W147).symm)) (Nat.le_of_eq (Wr.size W151).symm)) K180.1) hEL CR181 hx hret rfl rfl hlk (hb hby d2_114) (by decide) (by decide) ⟨b130, t180, kb180, rfl, N180, f183, fq180_0, fq180_1, fq180_2, (by rw [show own_txt nn c0 c1 c2 c3 = [c0, c1, c2, c3] from by unfold own_txt; rw [if_neg hc1, if_neg hc19, if_neg hc47, if_neg hc84]]; exact fq180_3), sz130⟩
theorem own_l2 {l : Int32} (h : l = 0 ∨ l = 1 ∨ l = 2) : ¬ l < 0 ∧ l.toNatClampNeg ≤ 2 := by rcases h with rfl | rfl | rfl <;> decide
theorem d6_0 : decode prog_18_method_9_code 0 = .ok (.iload_n 1, 1) := by decide +kernel
theorem d6_1 : decode prog_18_method_9_code 1 = .ok (.newarray .byte, 2) := by decide +kernel
theorem d6_3 : decode prog_18_method_9_code 3 = .ok (.astore_n 2, 1) := by decide +kernel
theorem d6_4 : decode prog_18_method_9_code 4 = .ok (.aload_n 0, 1) := by decide +kernel
theorem d6_5 : decode prog_18_method_9_code 5 = .ok (.invokevirtual 85, 3) := by decide +kernel
theorem d6_8 : decode prog_18_method_9_code 8 = .ok (.iconst 2, 1) := by decide +kernel
theorem d6_9 : decode prog_18_method_9_code 9 = .ok (.iload_n 1, 1) := by decide +kernel
theorem d6_10 : decode prog_18_method_9_code 10 = .ok (.imul, 1) := by decide +kernel
theorem d6_11 : decode prog_18_method_9_code 11 = .ok (.if_icmp .ne 7, 3) := by decide +kernel
theorem d6_18 : decode prog_18_method_9_code 18 = .ok (.iconst 0, 1) := by decide +kernel
theorem d6_19 : decode prog_18_method_9_code 19 = .ok (.istore_n 3, 1) := by decide +kernel
theorem d6_20 : decode prog_18_method_9_code 20 = .ok (.iconst 0, 1) := by decide +kernel
theorem d6_21 : decode prog_18_method_9_code 21 = .ok (.istore 4, 2) := by decide +kernel
theorem d6_23 : decode prog_18_method_9_code 23 = .ok (.iload 4, 2) := by decide +kernel
theorem d6_25 : decode prog_18_method_9_code 25 = .ok (.iload_n 1, 1) := by decide +kernel
theorem d6_26 : decode prog_18_method_9_code 26 = .ok (.if_icmp .ge 67, 3) := by decide +kernel
theorem d6_29 : decode prog_18_method_9_code 29 = .ok (.iload_n 3, 1) := by decide +kernel
theorem d6_30 : decode prog_18_method_9_code 30 = .ok (.ifCond .eq 63, 3) := by decide +kernel
theorem d6_93 : decode prog_18_method_9_code 93 = .ok (.iload_n 3, 1) := by decide +kernel
theorem d6_94 : decode prog_18_method_9_code 94 = .ok (.ifCond .eq 7, 3) := by decide +kernel
theorem d6_101 : decode prog_18_method_9_code 101 = .ok (.aconst_null, 1) := by decide +kernel
theorem d6_102 : decode prog_18_method_9_code 102 = .ok (.areturn, 1) := by decide +kernel
theorem pd___I : parseMethodDescriptor "()I" = some ⟨[], some .int⟩ := by decide +kernel
theorem ef_rhbad (m : MethodId) (x0 : Addr) (x1 : Int32) : entryFrame m #[(.ref x0), (.int x1)] 7 = mkF m 0 #[rv x0, iv x1, .unset, .unset, .unset, .unset, .unset] [] := by first | (simp [entryFrame, mkF, argsToLocals, Value.category]; done) | rfl
def Q_rhbad (Z : State) (x : Addr) (ll : Int32) (t : Addr) (kt : ClassId) (cs : List Int32) (cz : Int32) (h0 : Heap) (n0 : Nat) (v : Option Value) (h : Heap) (L : List Loc) : Prop := (v = some .null) ∧ (Fr n0 L) ∧ (Keep h0 h [])
set_option maxRecDepth 65536 in
set_option maxHeartbeats 40000000 in
theorem rm_rhbad (l : Launch) (Z : State) (a0 : Array Value) (hw : ∀ d ∈ tables_1, d.before a0 Z = true) (ws : List Jvm.Cond) (x : Addr) (ll : Int32) (t : Addr) (kt : ClassId) (cs : List Int32) (cz : Int32) (h0 : Heap) (n0 : Nat) (O0 : Old Z n0 h0) (E_x : Exa Z h0 x "java/lang/String") (V_x : Fld Z h0 x "java/lang/String" "value" "[B" (.ref t)) (C_x : Fld Z h0 x "java/lang/String" "coder" "B" (.int (0 : Int32))) (A_x : Arv Z h0 t kt .byte (Int32.ofNat cs.length) ((cs.map StrChars.lo8).map Value.int) (.int (0 : Int32))) (hp : ∀ c ∈ cs, ¬ c < 0 ∧ ¬ (255 : Int32) < c) (lcs : cs.length ≤ 4000) (hl2 : ll = 0 ∨ ll = 1 ∨ ll = 2) (hne : ¬ Int32.ofNat cs.length = (2 : Int32) * ll) (SC : Sta Z Z.heap "java/lang/String" "COMPACT_STRINGS" "Z" (.int cz)) (hcz : ¬ cz = (0 : Int32)) :
    MetFree l own_m11 (head1 (Jvm.Cond.code own_m11 prog_18_method_9_code 7 (some (.array .byte)) :: ws) ({ frames := 2, cells := 1, slots := 2, locals := 25 } : Room)) (fun ar_ U => ar_ = #[(.ref x), (.int ll)] ∧ Z.Warmed39 U.vm ∧ U.heap = h0) (fun _ _ _ _ _ => True) (fun _ U o U' => ∃ v L, o = .returned v ∧ Q_rhbad Z x ll t kt cs cz h0 n0 v U'.heap L ∧ FrameEnd U o U' L ({ frames := 2, cells := 1, slots := 2, locals := 25 } : Room).cells ({ frames := 2, cells := 1, slots := 2, locals := 25 } : Room).slots) := by
  refine MetFree.of_bodySF (plainFor_of_name pn_3) hisR ?_
  intro p e s m args below meth c s₁ Bd hml0 hP hK
  obtain ⟨rfl, hZ, hh⟩ := hP
  have hx := Bd.exec
  have hby := Bd.bytes
  have hml : c.maxLocals = 7 := hml0
  have hown : s.vm.findClass "com/example/vouchsafe/vouchsafe/Digests" = some m.cls := findClass_of_methodNamed Bd.named
  have hnm := (name_of_methodNamed Bd.named Bd.method).1
  have X0 : Stand p l e ({ frames := 2, cells := 1, slots := 2, locals := 25 } : Room) s m #[(.ref x), (.int ll)] below meth c s₁ [] 0 0 := Stand.of_body Bd
  have e0 : s₁.heap = h0 := by rw [← hh, Bd.state]; rfl
  have N0 := Fr.nil n0
  have hret := Bd.returns
  have hlk : meth.locks = false := Bd.notSynchronized
  show own_E p e below s ({ frames := 2, cells := 1, slots := 2, locals := 25 } : Room).cells ({ frames := 2, cells := 1, slots := 2, locals := 25 } : Room).slots (Q_rhbad Z x ll t kt cs cz h0 n0) s₁ (entryFrame m #[(.ref x), (.int ll)] 7)
  rw [ef_rhbad m x ll]
  refine own_st (T' := s₁) (g' := (mkF m 1 #[rv x, iv ll, .unset, .unset, .unset, .unset, .unset] [(.int ll)])) (fun _ k_ => XS.iloadN X0.here hx rfl (hb hby d6_0) rfl  k_) ?_
  obtain ⟨T1, h1, k1, X1, e1, E1, A1, st1⟩ := newP X0 hx hZ (hw _ (List.mem_of_getElem? (i := 22) rfl)) e0 (g := (mkF m 1 #[rv x, iv ll, .unset, .unset, .unset, .unset, .unset] [(.int ll)])) rfl (hb hby d6_1) rfl (own_l2 hl2).1 (cap := 2) (own_l2 hl2).2 (by decide) (by decide) (by decide)
  obtain ⟨b1, g1⟩ : ∃ z, z = h0.size := ⟨_, rfl⟩
  rw [← g1] at A1 st1
  have fr1 : n0 ≤ b1 := Nat.le_trans (own_z O0) (Nat.le_of_eq g1.symm)
  have sz1 : h0.size ≤ b1 := Nat.le_trans (Keep.refl h0 []).1 (Nat.le_of_eq g1.symm)
  have V1 : Arv Z h1 b1 k1 .byte ll [] (.int (0 : Int32)) := Arv.new A1 (own_l2 hl2).1
  refine own_st (T' := T1) (g' := (mkF m 3 #[rv x, iv ll, .unset, .unset, .unset, .unset, .unset] [(.ref b1)])) st1 ?_
  clear st1
  refine own_st (T' := T1) (g' := (mkF m 4 #[rv x, iv ll, rv b1, .unset, .unset, .unset, .unset] [])) (fun _ k_ => XS.astoreN X1.here hx rfl (hb hby d6_3) rfl rfl (l' := #[rv x, iv ll, rv b1, .unset, .unset, .unset, .unset]) rfl k_) ?_
  refine own_st (T' := T1) (g' := (mkF m 5 #[rv x, iv ll, rv b1, .unset, .unset, .unset, .unset] [(.ref x)])) (fun _ k_ => XS.aloadN X1.here hx rfl (hb hby d6_4) rfl rfl  k_) ?_
  have f2 : Old Z n0 h1 := O0.ext E1
  have f3 : Exa Z h1 x "java/lang/String" := E_x.ext E1
  have f4 : Fld Z h1 x "java/lang/String" "value" "[B" (.ref t) := V_x.ext E1
  have f5 : Fld Z h1 x "java/lang/String" "coder" "B" (.int (0 : Int32)) := C_x.ext E1
  have f6 : Arv Z h1 t kt .byte (Int32.ofNat cs.length) ((cs.map StrChars.lo8).map Value.int) (.int (0 : Int32)) := A_x.ext E1
  obtain ⟨cq7, kq7, q7a, q7b, q7c⟩ := isOf hZ e1 f3
  obtain ⟨v7, T7, L7, X7, ⟨hv7, rfl, eq7⟩, st7⟩ := own_callV X1 hx (y := own_m10) (z := own_m10) hown (mvT hZ (hw _ (List.mem_of_getElem? (i := 33) rfl))) (mvT hZ (hw _ (List.mem_of_getElem? (i := 34) rfl))) (notFace_of_selects (args := #[]) (mvT hZ (hw _ (List.mem_of_getElem? (i := 36) rfl)))) (mvT hZ (hw _ (List.mem_of_getElem? (i := 36) rfl))) (mvT hZ (hw _ (List.mem_of_getElem? (i := 35) rfl))) (by decide) (rm := ({ frames := 0, cells := 0, slots := 0, locals := 0 } : Room)) (Q := fun v h' L => v = some (.int (Int32.ofNat (List.length cs))) ∧ L = [] ∧ h' = h1) (StrChars.Road.lenW (W := 0) hZ (own_wLen hw) (kI := 4) (hw _ (List.mem_of_getElem? (i := 8) rfl)) f3 f4 f5 f6 (StrChars.Road.codOf (cs := cs) (n := List.length cs) rfl (fun c hc => (hp c hc).2)) (own_up _ hp) (SC.ext f2.2) hcz lcs (by decide) (by decide)) q7a q7c (g := (mkF m 5 #[rv x, iv ll, rv b1, .unset, .unset, .unset, .unset] [(.ref x)])) rfl (by rw [hml]; rfl) (argsL := []) (rest := []) (lenOf pd___I rfl) rfl (by show 2 * 0 + _ ≤ _; exact Nat.le_of_eq rfl) (hb hby d6_5) rfl e1 (by decide) (by decide) (c' := 1) (s' := 2) rfl rfl
  clear q7a q7b q7c kq7 cq7
  have N7 := Fr.app N0 (Fr.nil n0)
  obtain rfl : v7 = some (.int (Int32.ofNat (List.length cs))) := hv7.trans (congrArg (fun z => some (Value.int z)) rfl)
  refine own_st (T' := T7) (g' := (mkF m 8 #[rv x, iv ll, rv b1, .unset, .unset, .unset, .unset] [(.int (Int32.ofNat (List.length cs)))])) st7 ?_
  clear st7
  refine own_st (T' := T7) (g' := (mkF m 9 #[rv x, iv ll, rv b1, .unset, .unset, .unset, .unset] [(.int (2 : Int32)), (.int (Int32.ofNat (List.length cs)))])) (fun _ k_ => XS.iconst X7.here hx rfl (hb hby d6_8) k_) ?_
  refine own_st (T' := T7) (g' := (mkF m 10 #[rv x, iv ll, rv b1, .unset, .unset, .unset, .unset] [(.int ll), (.int (2 : Int32)), (.int (Int32.ofNat (List.length cs)))])) (fun _ k_ => XS.iloadN X7.here hx rfl (hb hby d6_9) rfl  k_) ?_
  refine own_st (T' := T7) (g' := (mkF m 11 #[rv x, iv ll, rv b1, .unset, .unset, .unset, .unset] [(.int ((2 : Int32) * ll)), (.int (Int32.ofNat (List.length cs)))])) (fun _ k_ => XS.imul X7.here hx rfl (hb hby d6_10) rfl k_) ?_
  refine own_st (T' := T7) (g' := (mkF m 18 #[rv x, iv ll, rv b1, .unset, .unset, .unset, .unset] [])) (fun _ k_ => XS.icmpYes X7.here hx rfl (pc0 := 11) (pc' := 18) rfl (hb hby d6_11) rfl (feq ((fun q => hne q) : ¬ ((Int32.ofNat (List.length cs)) = ((2 : Int32) * ll)))).2 (by decide) (by decide) k_) ?_
  refine own_st (T' := T7) (g' := (mkF m 19 #[rv x, iv ll, rv b1, .unset, .unset, .unset, .unset] [(.int (0 : Int32))])) (fun _ k_ => XS.iconst X7.here hx rfl (hb hby d6_18) k_) ?_
  refine own_st (T' := T7) (g' := (mkF m 20 #[rv x, iv ll, rv b1, iv (0 : Int32), .unset, .unset, .unset] [])) (fun _ k_ => XS.istoreN X7.here hx rfl (hb hby d6_19) rfl (l' := #[rv x, iv ll, rv b1, iv (0 : Int32), .unset, .unset, .unset]) rfl k_) ?_
  refine own_st (T' := T7) (g' := (mkF m 21 #[rv x, iv ll, rv b1, iv (0 : Int32), .unset, .unset, .unset] [(.int (0 : Int32))])) (fun _ k_ => XS.iconst X7.here hx rfl (hb hby d6_20) k_) ?_
  refine own_st (T' := T7) (g' := (mkF m 23 #[rv x, iv ll, rv b1, iv (0 : Int32), iv (0 : Int32), .unset, .unset] [])) (fun _ k_ => XS.istore X7.here hx rfl (hb hby d6_21) rfl (l' := #[rv x, iv ll, rv b1, iv (0 : Int32), iv (0 : Int32), .unset, .unset]) rfl k_) ?_
  refine own_st (T' := T7) (g' := (mkF m 25 #[rv x, iv ll, rv b1, iv (0 : Int32), iv (0 : Int32), .unset, .unset] [(.int (0 : Int32))])) (fun _ k_ => XS.iload X7.here hx rfl (hb hby d6_23) rfl  k_) ?_
  refine own_st (T' := T7) (g' := (mkF m 26 #[rv x, iv ll, rv b1, iv (0 : Int32), iv (0 : Int32), .unset, .unset] [(.int ll), (.int (0 : Int32))])) (fun _ k_ => XS.iloadN X7.here hx rfl (hb hby d6_25) rfl  k_) ?_
  by_cases hc8 : (0 : Int32) < ll
  · refine own_st (T' := T7) (g' := (mkF m 29 #[rv x, iv ll, rv b1, iv (0 : Int32), iv (0 : Int32), .unset, .unset] [])) (fun _ k_ => XS.icmpNo X7.here hx rfl (hb hby d6_26) rfl (tlt hc8).2.1 k_) ?_
    refine own_st (T' := T7) (g' := (mkF m 30 #[rv x, iv ll, rv b1, iv (0 : Int32), iv (0 : Int32), .unset, .unset] [(.int (0 : Int32))])) (fun _ k_ => XS.iloadN X7.here hx rfl (hb hby d6_29) rfl  k_) ?_
    refine own_st (T' := T7) (g' := (mkF m 93 #[rv x, iv ll, rv b1, iv (0 : Int32), iv (0 : Int32), .unset, .unset] [])) (fun _ k_ => XS.ifYes X7.here hx rfl (pc0 := 30) (pc' := 93) rfl (hb hby d6_30) rfl ((if0 _ _).trans (teq (rfl : (0 : Int32) = (0 : Int32))).1) (by decide) (by decide) k_) ?_
    refine own_st (T' := T7) (g' := (mkF m 94 #[rv x, iv ll, rv b1, iv (0 : Int32), iv (0 : Int32), .unset, .unset] [(.int (0 : Int32))])) (fun _ k_ => XS.iloadN X7.here hx rfl (hb hby d6_93) rfl  k_) ?_
    refine own_st (T' := T7) (g' := (mkF m 101 #[rv x, iv ll, rv b1, iv (0 : Int32), iv (0 : Int32), .unset, .unset] [])) (fun _ k_ => XS.ifYes X7.here hx rfl (pc0 := 94) (pc' := 101) rfl (hb hby d6_94) rfl ((if0 _ _).trans (teq (rfl : (0 : Int32) = (0 : Int32))).1) (by decide) (by decide) k_) ?_
    refine own_st (T' := T7) (g' := (mkF m 102 #[rv x, iv ll, rv b1, iv (0 : Int32), iv (0 : Int32), .unset, .unset] [.null])) (fun _ k_ => XS.aconstNull X7.here hx rfl (hb hby d6_101) k_) ?_
    have f9 : Keep h0 h1 [] := (Keep.refl h0 []).ext E1
    exact own_retA X7 hx hret rfl rfl hlk (hb hby d6_102) (by decide) (by decide) (by rw [eq7]; exact ⟨rfl, N7, f9⟩)
  · refine own_st (T' := T7) (g' := (mkF m 93 #[rv x, iv ll, rv b1, iv (0 : Int32), iv (0 : Int32), .unset, .unset] [])) (fun _ k_ => XS.icmpYes X7.here hx rfl (pc0 := 26) (pc' := 93) rfl (hb hby d6_26) rfl (flt hc8).2.1 (by decide) (by decide) k_) ?_
    refine own_st (T' := T7) (g' := (mkF m 94 #[rv x, iv ll, rv b1, iv (0 : Int32), iv (0 : Int32), .unset, .unset] [(.int (0 : Int32))])) (fun _ k_ => XS.iloadN X7.here hx rfl (hb hby d6_93) rfl  k_) ?_
    refine own_st (T' := T7) (g' := (mkF m 101 #[rv x, iv ll, rv b1, iv (0 : Int32), iv (0 : Int32), .unset, .unset] [])) (fun _ k_ => XS.ifYes X7.here hx rfl (pc0 := 94) (pc' := 101) rfl (hb hby d6_94) rfl ((if0 _ _).trans (teq (rfl : (0 : Int32) = (0 : Int32))).1) (by decide) (by decide) k_) ?_
    refine own_st (T' := T7) (g' := (mkF m 102 #[rv x, iv ll, rv b1, iv (0 : Int32), iv (0 : Int32), .unset, .unset] [.null])) (fun _ k_ => XS.aconstNull X7.here hx rfl (hb hby d6_101) k_) ?_
    have f10 : Keep h0 h1 [] := (Keep.refl h0 []).ext E1
    exact own_retA X7 hx hret rfl rfl hlk (hb hby d6_102) (by decide) (by decide) (by rw [eq7]; exact ⟨rfl, N7, f10⟩)
theorem own_cR0  : ∀ c ∈ ([] : List Int32), ¬ c < 0 ∧ ¬ (255 : Int32) < c := (fun _ q => nomatch q)
theorem d6_14 : decode prog_18_method_9_code 14 = .ok (.iconst 1, 1) := by decide +kernel
theorem d6_15 : decode prog_18_method_9_code 15 = .ok (.goto 4, 3) := by decide +kernel
theorem d6_97 : decode prog_18_method_9_code 97 = .ok (.aload_n 2, 1) := by decide +kernel
theorem d6_98 : decode prog_18_method_9_code 98 = .ok (.goto 4, 3) := by decide +kernel
theorem ef_rh0 (m : MethodId) (x0 : Addr) (x1 : Int32) : entryFrame m #[(.ref x0), (.int x1)] 7 = mkF m 0 #[rv x0, iv x1, .unset, .unset, .unset, .unset, .unset] [] := by first | (simp [entryFrame, mkF, argsToLocals, Value.category]; done) | rfl
def Q_rh0 (Z : State) (x : Addr) (t : Addr) (kt : ClassId) (cz : Int32) (fm : Value) (hv_ : Addr) (clV : Cell) (h0 : Heap) (n0 : Nat) (v : Option Value) (h : Heap) (L : List Loc) : Prop := ∃ (r : Value) (b : Addr) (kb : ClassId), (v = some r) ∧ (Fr n0 L) ∧ (Keep h0 h []) ∧ ((False) → r = .null) ∧ (¬ (False) → r = .ref b ∧ Arv Z h b kb .byte (0 : Int32) [] (.int (0 : Int32)))
set_option maxRecDepth 65536 in
set_option maxHeartbeats 40000000 in
theorem rm_rh0 (l : Launch) (Z : State) (a0 : Array Value) (hw : ∀ d ∈ tables_1, d.before a0 Z = true) (ws : List Jvm.Cond) (x : Addr) (t : Addr) (kt : ClassId) (cz : Int32) (fm : Value) (hv_ : Addr) (clV : Cell) (h0 : Heap) (n0 : Nat) (O0 : Old Z n0 h0) (E_x : Exa Z h0 x "java/lang/String") (V_x : Fld Z h0 x "java/lang/String" "value" "[B" (.ref t)) (C_x : Fld Z h0 x "java/lang/String" "coder" "B" (.int (0 : Int32))) (A_x : Arv Z h0 t kt .byte (0 : Int32) [] (.int (0 : Int32))) (SC : Sta Z Z.heap "java/lang/String" "COMPACT_STRINGS" "Z" (.int cz)) (hcz : ¬ cz = (0 : Int32)) (SF : Sta Z Z.heap "jdk/internal/util/Preconditions" "SIOOBE_FORMATTER" "Ljava/util/function/BiFunction;" fm) (hfm : fm.isRef = true) (SV : Sta Z Z.heap "com/example/vouchsafe/vouchsafe/Digests" "HEX_VALUES" "[B" (.ref hv_)) (HV : own_HV Z hv_ clV) :
    MetFree l own_m11 (head1 (Jvm.Cond.code own_m11 prog_18_method_9_code 7 (some (.array .byte)) :: ws) ({ frames := 2, cells := 1, slots := 0, locals := 25 } : Room)) (fun ar_ U => ar_ = #[(.ref x), (.int (0 : Int32))] ∧ Z.Warmed39 U.vm ∧ U.heap = h0) (fun _ _ _ _ _ => True) (fun _ U o U' => ∃ v L, o = .returned v ∧ Q_rh0 Z x t kt cz fm hv_ clV h0 n0 v U'.heap L ∧ FrameEnd U o U' L ({ frames := 2, cells := 1, slots := 0, locals := 25 } : Room).cells ({ frames := 2, cells := 1, slots := 0, locals := 25 } : Room).slots) := by
  refine MetFree.of_bodySF (plainFor_of_name pn_3) hisR ?_
  intro p e s m args below meth c s₁ Bd hml0 hP hK
  obtain ⟨rfl, hZ, hh⟩ := hP
  have hx := Bd.exec
  have hby := Bd.bytes
  have hml : c.maxLocals = 7 := hml0
  have hown : s.vm.findClass "com/example/vouchsafe/vouchsafe/Digests" = some m.cls := findClass_of_methodNamed Bd.named
  have hnm := (name_of_methodNamed Bd.named Bd.method).1
  have X0 : Stand p l e ({ frames := 2, cells := 1, slots := 0, locals := 25 } : Room) s m #[(.ref x), (.int (0 : Int32))] below meth c s₁ [] 0 0 := Stand.of_body Bd
  have e0 : s₁.heap = h0 := by rw [← hh, Bd.state]; rfl
  have N0 := Fr.nil n0
  have hret := Bd.returns
  have hlk : meth.locks = false := Bd.notSynchronized
  show own_E p e below s ({ frames := 2, cells := 1, slots := 0, locals := 25 } : Room).cells ({ frames := 2, cells := 1, slots := 0, locals := 25 } : Room).slots (Q_rh0 Z x t kt cz fm hv_ clV h0 n0) s₁ (entryFrame m #[(.ref x), (.int (0 : Int32))] 7)
  rw [ef_rh0 m x (0 : Int32)]
  refine own_st (T' := s₁) (g' := (mkF m 1 #[rv x, iv (0 : Int32), .unset, .unset, .unset, .unset, .unset] [(.int (0 : Int32))])) (fun _ k_ => XS.iloadN X0.here hx rfl (hb hby d6_0) rfl  k_) ?_
  obtain ⟨T1, h1, k1, X1, e1, E1, A1, st1⟩ := newP X0 hx hZ (hw _ (List.mem_of_getElem? (i := 22) rfl)) e0 (g := (mkF m 1 #[rv x, iv (0 : Int32), .unset, .unset, .unset, .unset, .unset] [(.int (0 : Int32))])) rfl (hb hby d6_1) rfl (by decide) (cap := 0) (by decide) (by decide) (by decide) (by decide)
  obtain ⟨b1, g1⟩ : ∃ z, z = h0.size := ⟨_, rfl⟩
  rw [← g1] at A1 st1
  have fr1 : n0 ≤ b1 := Nat.le_trans (own_z O0) (Nat.le_of_eq g1.symm)
  have sz1 : h0.size ≤ b1 := Nat.le_trans (Keep.refl h0 []).1 (Nat.le_of_eq g1.symm)
  have V1 : Arv Z h1 b1 k1 .byte (0 : Int32) [] (.int (0 : Int32)) := Arv.new A1 (by decide)
  refine own_st (T' := T1) (g' := (mkF m 3 #[rv x, iv (0 : Int32), .unset, .unset, .unset, .unset, .unset] [(.ref b1)])) st1 ?_
  clear st1
  refine own_st (T' := T1) (g' := (mkF m 4 #[rv x, iv (0 : Int32), rv b1, .unset, .unset, .unset, .unset] [])) (fun _ k_ => XS.astoreN X1.here hx rfl (hb hby d6_3) rfl rfl (l' := #[rv x, iv (0 : Int32), rv b1, .unset, .unset, .unset, .unset]) rfl k_) ?_
  refine own_st (T' := T1) (g' := (mkF m 5 #[rv x, iv (0 : Int32), rv b1, .unset, .unset, .unset, .unset] [(.ref x)])) (fun _ k_ => XS.aloadN X1.here hx rfl (hb hby d6_4) rfl rfl  k_) ?_
  have f2 : Old Z n0 h1 := O0.ext E1
  have f3 : Exa Z h1 x "java/lang/String" := E_x.ext E1
  have f4 : Fld Z h1 x "java/lang/String" "value" "[B" (.ref t) := V_x.ext E1
  have f5 : Fld Z h1 x "java/lang/String" "coder" "B" (.int (0 : Int32)) := C_x.ext E1
  have f6 : Arv Z h1 t kt .byte (0 : Int32) [] (.int (0 : Int32)) := A_x.ext E1
  obtain ⟨cq7, kq7, q7a, q7b, q7c⟩ := isOf hZ e1 f3
  obtain ⟨v7, T7, L7, X7, ⟨hv7, rfl, eq7⟩, st7⟩ := own_callV X1 hx (y := own_m10) (z := own_m10) hown (mvT hZ (hw _ (List.mem_of_getElem? (i := 33) rfl))) (mvT hZ (hw _ (List.mem_of_getElem? (i := 34) rfl))) (notFace_of_selects (args := #[]) (mvT hZ (hw _ (List.mem_of_getElem? (i := 36) rfl)))) (mvT hZ (hw _ (List.mem_of_getElem? (i := 36) rfl))) (mvT hZ (hw _ (List.mem_of_getElem? (i := 35) rfl))) (by decide) (rm := ({ frames := 0, cells := 0, slots := 0, locals := 0 } : Room)) (Q := fun v h' L => v = some (.int (Int32.ofNat (List.length ([] : List Int32)))) ∧ L = [] ∧ h' = h1) (StrChars.Road.lenW (W := 0) hZ (own_wLen hw) (kI := 4) (hw _ (List.mem_of_getElem? (i := 8) rfl)) f3 f4 f5 f6 (StrChars.Road.codOf (cs := ([] : List Int32)) (n := List.length ([] : List Int32)) rfl (fun c hc => ((own_cR0 ) c hc).2)) (own_up _ (own_cR0 )) (SC.ext f2.2) hcz (Nat.le_of_ble_eq_true rfl) (by decide) (by decide)) q7a q7c (g := (mkF m 5 #[rv x, iv (0 : Int32), rv b1, .unset, .unset, .unset, .unset] [(.ref x)])) rfl (by rw [hml]; rfl) (argsL := []) (rest := []) (lenOf pd___I rfl) rfl (by show 2 * 0 + _ ≤ _; exact Nat.le_of_eq rfl) (hb hby d6_5) rfl e1 (by decide) (by decide) (c' := 1) (s' := 0) rfl rfl
  clear q7a q7b q7c kq7 cq7
  have N7 := Fr.app N0 (Fr.nil n0)
  obtain rfl : v7 = some (.int (0 : Int32)) := hv7.trans (congrArg (fun z => some (Value.int z)) rfl)
  refine own_st (T' := T7) (g' := (mkF m 8 #[rv x, iv (0 : Int32), rv b1, .unset, .unset, .unset, .unset] [(.int (0 : Int32))])) st7 ?_
  clear st7
  refine own_st (T' := T7) (g' := (mkF m 9 #[rv x, iv (0 : Int32), rv b1, .unset, .unset, .unset, .unset] [(.int (2 : Int32)), (.int (0 : Int32))])) (fun _ k_ => XS.iconst X7.here hx rfl (hb hby d6_8) k_) ?_
  refine own_st (T' := T7) (g' := (mkF m 10 #[rv x, iv (0 : Int32), rv b1, .unset, .unset, .unset, .unset] [(.int (0 : Int32)), (.int (2 : Int32)), (.int (0 : Int32))])) (fun _ k_ => XS.iloadN X7.here hx rfl (hb hby d6_9) rfl  k_) ?_
  refine own_st (T' := T7) (g' := (mkF m 11 #[rv x, iv (0 : Int32), rv b1, .unset, .unset, .unset, .unset] [(.int (0 : Int32)), (.int (0 : Int32))])) (fun _ k_ => XS.imul X7.here hx rfl (hb hby d6_10) rfl k_) ?_
  refine own_st (T' := T7) (g' := (mkF m 14 #[rv x, iv (0 : Int32), rv b1, .unset, .unset, .unset, .unset] [])) (fun _ k_ => XS.icmpNo X7.here hx rfl (hb hby d6_11) rfl (teq (rfl : (0 : Int32) = (0 : Int32))).2 k_) ?_
  refine own_st (T' := T7) (g' := (mkF m 15 #[rv x, iv (0 : Int32), rv b1, .unset, .unset, .unset, .unset] [(.int (1 : Int32))])) (fun _ k_ => XS.iconst X7.here hx rfl (hb hby d6_14) k_) ?_
  refine own_st (T' := T7) (g' := (mkF m 19 #[rv x, iv (0 : Int32), rv b1, .unset, .unset, .unset, .unset] [(.int (1 : Int32))])) (fun _ k_ => XS.goto X7.here hx rfl (pc0 := 15) (pc' := 19) rfl (hb hby d6_15) (by decide) (by decide) k_) ?_
  refine own_st (T' := T7) (g' := (mkF m 20 #[rv x, iv (0 : Int32), rv b1, iv (1 : Int32), .unset, .unset, .unset] [])) (fun _ k_ => XS.istoreN X7.here hx rfl (hb hby d6_19) rfl (l' := #[rv x, iv (0 : Int32), rv b1, iv (1 : Int32), .unset, .unset, .unset]) rfl k_) ?_
  refine own_st (T' := T7) (g' := (mkF m 21 #[rv x, iv (0 : Int32), rv b1, iv (1 : Int32), .unset, .unset, .unset] [(.int (0 : Int32))])) (fun _ k_ => XS.iconst X7.here hx rfl (hb hby d6_20) k_) ?_
  refine own_st (T' := T7) (g' := (mkF m 23 #[rv x, iv (0 : Int32), rv b1, iv (1 : Int32), iv (0 : Int32), .unset, .unset] [])) (fun _ k_ => XS.istore X7.here hx rfl (hb hby d6_21) rfl (l' := #[rv x, iv (0 : Int32), rv b1, iv (1 : Int32), iv (0 : Int32), .unset, .unset]) rfl k_) ?_
  refine own_st (T' := T7) (g' := (mkF m 25 #[rv x, iv (0 : Int32), rv b1, iv (1 : Int32), iv (0 : Int32), .unset, .unset] [(.int (0 : Int32))])) (fun _ k_ => XS.iload X7.here hx rfl (hb hby d6_23) rfl  k_) ?_
  refine own_st (T' := T7) (g' := (mkF m 26 #[rv x, iv (0 : Int32), rv b1, iv (1 : Int32), iv (0 : Int32), .unset, .unset] [(.int (0 : Int32)), (.int (0 : Int32))])) (fun _ k_ => XS.iloadN X7.here hx rfl (hb hby d6_25) rfl  k_) ?_
  refine own_st (T' := T7) (g' := (mkF m 93 #[rv x, iv (0 : Int32), rv b1, iv (1 : Int32), iv (0 : Int32), .unset, .unset] [])) (fun _ k_ => XS.icmpYes X7.here hx rfl (pc0 := 26) (pc' := 93) rfl (hb hby d6_26) rfl (flt (by decide : ¬ ((0 : Int32) < (0 : Int32)))).2.1 (by decide) (by decide) k_) ?_
  refine own_st (T' := T7) (g' := (mkF m 94 #[rv x, iv (0 : Int32), rv b1, iv (1 : Int32), iv (0 : Int32), .unset, .unset] [(.int (1 : Int32))])) (fun _ k_ => XS.iloadN X7.here hx rfl (hb hby d6_93) rfl  k_) ?_
  refine own_st (T' := T7) (g' := (mkF m 97 #[rv x, iv (0 : Int32), rv b1, iv (1 : Int32), iv (0 : Int32), .unset, .unset] [])) (fun _ k_ => XS.ifNo X7.here hx rfl (hb hby d6_94) rfl ((if0 _ _).trans (feq (by decide : ¬ ((1 : Int32) = (0 : Int32)))).1) k_) ?_
  refine own_st (T' := T7) (g' := (mkF m 98 #[rv x, iv (0 : Int32), rv b1, iv (1 : Int32), iv (0 : Int32), .unset, .unset] [(.ref b1)])) (fun _ k_ => XS.aloadN X7.here hx rfl (hb hby d6_97) rfl rfl  k_) ?_
  refine own_st (T' := T7) (g' := (mkF m 102 #[rv x, iv (0 : Int32), rv b1, iv (1 : Int32), iv (0 : Int32), .unset, .unset] [(.ref b1)])) (fun _ k_ => XS.goto X7.here hx rfl (pc0 := 98) (pc' := 102) rfl (hb hby d6_98) (by decide) (by decide) k_) ?_
  have f8 : Keep h0 h1 [] := (Keep.refl h0 []).ext E1
  exact own_retA X7 hx hret rfl rfl hlk (hb hby d6_102) (by decide) (by decide) (by rw [eq7]; exact ⟨.ref b1, b1, k1, rfl, N7, f8, fun q => q.elim, fun _ => ⟨rfl, V1⟩⟩)
theorem own_cR2 (c0 : Int32) (c1 : Int32) (hr0 : ¬ c0 < 0 ∧ ¬ (255 : Int32) < c0) (hr1 : ¬ c1 < 0 ∧ ¬ (255 : Int32) < c1) : ∀ c ∈ ([c0, c1] : List Int32), ¬ c < 0 ∧ ¬ (255 : Int32) < c := (by intro c hc; simp only [List.mem_cons, List.not_mem_nil, or_false] at hc; rcases hc with rfl | rfl <;> assumption)
theorem d6_33 : decode prog_18_method_9_code 33 = .ok (.aload_n 0, 1) := by decide +kernel
theorem d6_34 : decode prog_18_method_9_code 34 = .ok (.iconst 2, 1) := by decide +kernel
theorem d6_35 : decode prog_18_method_9_code 35 = .ok (.iload 4, 2) := by decide +kernel
theorem d6_37 : decode prog_18_method_9_code 37 = .ok (.imul, 1) := by decide +kernel
theorem d6_38 : decode prog_18_method_9_code 38 = .ok (.invokevirtual 89, 3) := by decide +kernel
theorem d6_41 : decode prog_18_method_9_code 41 = .ok (.invokestatic 93, 3) := by decide +kernel
theorem d6_44 : decode prog_18_method_9_code 44 = .ok (.istore 5, 2) := by decide +kernel
theorem d6_46 : decode prog_18_method_9_code 46 = .ok (.aload_n 0, 1) := by decide +kernel
theorem d6_47 : decode prog_18_method_9_code 47 = .ok (.iconst 2, 1) := by decide +kernel
theorem d6_48 : decode prog_18_method_9_code 48 = .ok (.iload 4, 2) := by decide +kernel
theorem d6_50 : decode prog_18_method_9_code 50 = .ok (.imul, 1) := by decide +kernel
theorem d6_51 : decode prog_18_method_9_code 51 = .ok (.iconst 1, 1) := by decide +kernel
theorem d6_52 : decode prog_18_method_9_code 52 = .ok (.iadd, 1) := by decide +kernel
theorem d6_53 : decode prog_18_method_9_code 53 = .ok (.invokevirtual 89, 3) := by decide +kernel
theorem d6_56 : decode prog_18_method_9_code 56 = .ok (.invokestatic 93, 3) := by decide +kernel
theorem d6_59 : decode prog_18_method_9_code 59 = .ok (.istore 6, 2) := by decide +kernel
theorem d6_61 : decode prog_18_method_9_code 61 = .ok (.iload 5, 2) := by decide +kernel
theorem d6_63 : decode prog_18_method_9_code 63 = .ok (.iload 6, 2) := by decide +kernel
theorem d6_65 : decode prog_18_method_9_code 65 = .ok (.ior, 1) := by decide +kernel
theorem d6_66 : decode prog_18_method_9_code 66 = .ok (.ifCond .lt 7, 3) := by decide +kernel
theorem d6_69 : decode prog_18_method_9_code 69 = .ok (.iconst 1, 1) := by decide +kernel
theorem d6_70 : decode prog_18_method_9_code 70 = .ok (.goto 4, 3) := by decide +kernel
theorem d6_73 : decode prog_18_method_9_code 73 = .ok (.iconst 0, 1) := by decide +kernel
theorem d6_74 : decode prog_18_method_9_code 74 = .ok (.istore_n 3, 1) := by decide +kernel
theorem d6_75 : decode prog_18_method_9_code 75 = .ok (.aload_n 2, 1) := by decide +kernel
theorem d6_76 : decode prog_18_method_9_code 76 = .ok (.iload 4, 2) := by decide +kernel
theorem d6_78 : decode prog_18_method_9_code 78 = .ok (.iload 5, 2) := by decide +kernel
theorem d6_80 : decode prog_18_method_9_code 80 = .ok (.iconst 4, 1) := by decide +kernel
theorem d6_81 : decode prog_18_method_9_code 81 = .ok (.ishl, 1) := by decide +kernel
theorem d6_82 : decode prog_18_method_9_code 82 = .ok (.iload 6, 2) := by decide +kernel
theorem d6_84 : decode prog_18_method_9_code 84 = .ok (.ior, 1) := by decide +kernel
theorem d6_85 : decode prog_18_method_9_code 85 = .ok (.i2b, 1) := by decide +kernel
theorem d6_86 : decode prog_18_method_9_code 86 = .ok (.bastore, 1) := by decide +kernel
theorem d6_87 : decode prog_18_method_9_code 87 = .ok (.iinc 4 1, 3) := by decide +kernel
theorem d6_90 : decode prog_18_method_9_code 90 = .ok (.goto (-67), 3) := by decide +kernel
theorem pd__C_I : parseMethodDescriptor "(C)I" = some ⟨[.char], some .int⟩ := by decide +kernel
theorem ef_rh1 (m : MethodId) (x0 : Addr) (x1 : Int32) : entryFrame m #[(.ref x0), (.int x1)] 7 = mkF m 0 #[rv x0, iv x1, .unset, .unset, .unset, .unset, .unset] [] := by first | (simp [entryFrame, mkF, argsToLocals, Value.category]; done) | rfl
def Q_rh1 (Z : State) (x : Addr) (t : Addr) (kt : ClassId) (c0 : Int32) (c1 : Int32) (cz : Int32) (fm : Value) (hv_ : Addr) (clV : Cell) (h0 : Heap) (n0 : Nat) (v : Option Value) (h : Heap) (L : List Loc) : Prop := ∃ (r : Value) (b : Addr) (kb : ClassId), (v = some r) ∧ (Fr n0 L) ∧ (Keep h0 h []) ∧ ((((own_val c0 ||| own_val c1) < 0)) → r = .null) ∧ (¬ (((own_val c0 ||| own_val c1) < 0)) → r = .ref b ∧ Arv Z h b kb .byte (1 : Int32) [(.int (((own_val c0 <<< ((4 : Int32) &&& 31)) ||| own_val c1).toInt8.toInt32))] (.int (0 : Int32)))
set_option maxRecDepth 65536 in
set_option maxHeartbeats 40000000 in
theorem rm_rh1 (l : Launch) (Z : State) (a0 : Array Value) (hw : ∀ d ∈ tables_1, d.before a0 Z = true) (ws : List Jvm.Cond) (x : Addr) (t : Addr) (kt : ClassId) (c0 : Int32) (c1 : Int32) (cz : Int32) (fm : Value) (hv_ : Addr) (clV : Cell) (h0 : Heap) (n0 : Nat) (O0 : Old Z n0 h0) (E_x : Exa Z h0 x "java/lang/String") (V_x : Fld Z h0 x "java/lang/String" "value" "[B" (.ref t)) (C_x : Fld Z h0 x "java/lang/String" "coder" "B" (.int (0 : Int32))) (A_x : Arv Z h0 t kt .byte (2 : Int32) [(.int (c0.toInt8.toInt32)), (.int (c1.toInt8.toInt32))] (.int (0 : Int32))) (hr0 : ¬ c0 < 0 ∧ ¬ (255 : Int32) < c0) (hr1 : ¬ c1 < 0 ∧ ¬ (255 : Int32) < c1) (SC : Sta Z Z.heap "java/lang/String" "COMPACT_STRINGS" "Z" (.int cz)) (hcz : ¬ cz = (0 : Int32)) (SF : Sta Z Z.heap "jdk/internal/util/Preconditions" "SIOOBE_FORMATTER" "Ljava/util/function/BiFunction;" fm) (hfm : fm.isRef = true) (SV : Sta Z Z.heap "com/example/vouchsafe/vouchsafe/Digests" "HEX_VALUES" "[B" (.ref hv_)) (HV : own_HV Z hv_ clV) :
    MetFree l own_m11 (head1 (Jvm.Cond.code own_m11 prog_18_method_9_code 7 (some (.array .byte)) :: ws) ({ frames := 4, cells := 1, slots := 1, locals := 53 } : Room)) (fun ar_ U => ar_ = #[(.ref x), (.int (1 : Int32))] ∧ Z.Warmed39 U.vm ∧ U.heap = h0) (fun _ _ _ _ _ => True) (fun _ U o U' => ∃ v L, o = .returned v ∧ Q_rh1 Z x t kt c0 c1 cz fm hv_ clV h0 n0 v U'.heap L ∧ FrameEnd U o U' L ({ frames := 4, cells := 1, slots := 1, locals := 53 } : Room).cells ({ frames := 4, cells := 1, slots := 1, locals := 53 } : Room).slots) := by
  refine MetFree.of_bodySF (plainFor_of_name pn_3) hisR ?_
  intro p e s m args below meth c s₁ Bd hml0 hP hK
  obtain ⟨rfl, hZ, hh⟩ := hP
  have hx := Bd.exec
  have hby := Bd.bytes
  have hml : c.maxLocals = 7 := hml0
  have hown : s.vm.findClass "com/example/vouchsafe/vouchsafe/Digests" = some m.cls := findClass_of_methodNamed Bd.named
  have hnm := (name_of_methodNamed Bd.named Bd.method).1
  have X0 : Stand p l e ({ frames := 4, cells := 1, slots := 1, locals := 53 } : Room) s m #[(.ref x), (.int (1 : Int32))] below meth c s₁ [] 0 0 := Stand.of_body Bd
  have e0 : s₁.heap = h0 := by rw [← hh, Bd.state]; rfl
  have N0 := Fr.nil n0
  have hret := Bd.returns
  have hlk : meth.locks = false := Bd.notSynchronized
  show own_E p e below s ({ frames := 4, cells := 1, slots := 1, locals := 53 } : Room).cells ({ frames := 4, cells := 1, slots := 1, locals := 53 } : Room).slots (Q_rh1 Z x t kt c0 c1 cz fm hv_ clV h0 n0) s₁ (entryFrame m #[(.ref x), (.int (1 : Int32))] 7)
  rw [ef_rh1 m x (1 : Int32)]
  refine own_st (T' := s₁) (g' := (mkF m 1 #[rv x, iv (1 : Int32), .unset, .unset, .unset, .unset, .unset] [(.int (1 : Int32))])) (fun _ k_ => XS.iloadN X0.here hx rfl (hb hby d6_0) rfl  k_) ?_
  obtain ⟨T1, h1, k1, X1, e1, E1, A1, st1⟩ := newP X0 hx hZ (hw _ (List.mem_of_getElem? (i := 22) rfl)) e0 (g := (mkF m 1 #[rv x, iv (1 : Int32), .unset, .unset, .unset, .unset, .unset] [(.int (1 : Int32))])) rfl (hb hby d6_1) rfl (by decide) (cap := 1) (by decide) (by decide) (by decide) (by decide)
  obtain ⟨b1, g1⟩ : ∃ z, z = h0.size := ⟨_, rfl⟩
  rw [← g1] at A1 st1
  have fr1 : n0 ≤ b1 := Nat.le_trans (own_z O0) (Nat.le_of_eq g1.symm)
  have sz1 : h0.size ≤ b1 := Nat.le_trans (Keep.refl h0 []).1 (Nat.le_of_eq g1.symm)
  have V1 : Arv Z h1 b1 k1 .byte (1 : Int32) [(.int (0 : Int32))] (.int (0 : Int32)) := (Arv.new A1 (by decide)).pad (pad_rep [] (.int (0 : Int32)) 1)
  refine own_st (T' := T1) (g' := (mkF m 3 #[rv x, iv (1 : Int32), .unset, .unset, .unset, .unset, .unset] [(.ref b1)])) st1 ?_
  clear st1
  refine own_st (T' := T1) (g' := (mkF m 4 #[rv x, iv (1 : Int32), rv b1, .unset, .unset, .unset, .unset] [])) (fun _ k_ => XS.astoreN X1.here hx rfl (hb hby d6_3) rfl rfl (l' := #[rv x, iv (1 : Int32), rv b1, .unset, .unset, .unset, .unset]) rfl k_) ?_
  refine own_st (T' := T1) (g' := (mkF m 5 #[rv x, iv (1 : Int32), rv b1, .unset, .unset, .unset, .unset] [(.ref x)])) (fun _ k_ => XS.aloadN X1.here hx rfl (hb hby d6_4) rfl rfl  k_) ?_
  have f2 : Old Z n0 h1 := O0.ext E1
  have f3 : Exa Z h1 x "java/lang/String" := E_x.ext E1
  have f4 : Fld Z h1 x "java/lang/String" "value" "[B" (.ref t) := V_x.ext E1
  have f5 : Fld Z h1 x "java/lang/String" "coder" "B" (.int (0 : Int32)) := C_x.ext E1
  have f6 : Arv Z h1 t kt .byte (2 : Int32) [(.int (c0.toInt8.toInt32)), (.int (c1.toInt8.toInt32))] (.int (0 : Int32)) := A_x.ext E1
  obtain ⟨cq7, kq7, q7a, q7b, q7c⟩ := isOf hZ e1 f3
  obtain ⟨v7, T7, L7, X7, ⟨hv7, rfl, eq7⟩, st7⟩ := own_callV X1 hx (y := own_m10) (z := own_m10) hown (mvT hZ (hw _ (List.mem_of_getElem? (i := 33) rfl))) (mvT hZ (hw _ (List.mem_of_getElem? (i := 34) rfl))) (notFace_of_selects (args := #[]) (mvT hZ (hw _ (List.mem_of_getElem? (i := 36) rfl)))) (mvT hZ (hw _ (List.mem_of_getElem? (i := 36) rfl))) (mvT hZ (hw _ (List.mem_of_getElem? (i := 35) rfl))) (by decide) (rm := ({ frames := 0, cells := 0, slots := 0, locals := 0 } : Room)) (Q := fun v h' L => v = some (.int (Int32.ofNat (List.length ([c0, c1] : List Int32)))) ∧ L = [] ∧ h' = h1) (StrChars.Road.lenW (W := 0) hZ (own_wLen hw) (kI := 4) (hw _ (List.mem_of_getElem? (i := 8) rfl)) f3 f4 f5 f6 (StrChars.Road.codOf (cs := ([c0, c1] : List Int32)) (n := List.length ([c0, c1] : List Int32)) rfl (fun c hc => ((own_cR2 c0 c1 hr0 hr1) c hc).2)) (own_up _ (own_cR2 c0 c1 hr0 hr1)) (SC.ext f2.2) hcz (Nat.le_of_ble_eq_true rfl) (by decide) (by decide)) q7a q7c (g := (mkF m 5 #[rv x, iv (1 : Int32), rv b1, .unset, .unset, .unset, .unset] [(.ref x)])) rfl (by rw [hml]; rfl) (argsL := []) (rest := []) (lenOf pd___I rfl) rfl (by show 2 * 0 + _ ≤ _; exact Nat.le_of_eq rfl) (hb hby d6_5) rfl e1 (by decide) (by decide) (c' := 1) (s' := 1) rfl rfl
  clear q7a q7b q7c kq7 cq7
  have N7 := Fr.app N0 (Fr.nil n0)
  obtain rfl : v7 = some (.int (2 : Int32)) := hv7.trans (congrArg (fun z => some (Value.int z)) rfl)
  refine own_st (T' := T7) (g' := (mkF m 8 #[rv x, iv (1 : Int32), rv b1, .unset, .unset, .unset, .unset] [(.int (2 : Int32))])) st7 ?_
  clear st7
  refine own_st (T' := T7) (g' := (mkF m 9 #[rv x, iv (1 : Int32), rv b1, .unset, .unset, .unset, .unset] [(.int (2 : Int32)), (.int (2 : Int32))])) (fun _ k_ => XS.iconst X7.here hx rfl (hb hby d6_8) k_) ?_
  refine own_st (T' := T7) (g' := (mkF m 10 #[rv x, iv (1 : Int32), rv b1, .unset, .unset, .unset, .unset] [(.int (1 : Int32)), (.int (2 : Int32)), (.int (2 : Int32))])) (fun _ k_ => XS.iloadN X7.here hx rfl (hb hby d6_9) rfl  k_) ?_
  refine own_st (T' := T7) (g' := (mkF m 11 #[rv x, iv (1 : Int32), rv b1, .unset, .unset, .unset, .unset] [(.int (2 : Int32)), (.int (2 : Int32))])) (fun _ k_ => XS.imul X7.here hx rfl (hb hby d6_10) rfl k_) ?_
  refine own_st (T' := T7) (g' := (mkF m 14 #[rv x, iv (1 : Int32), rv b1, .unset, .unset, .unset, .unset] [])) (fun _ k_ => XS.icmpNo X7.here hx rfl (hb hby d6_11) rfl (teq (rfl : (2 : Int32) = (2 : Int32))).2 k_) ?_
  refine own_st (T' := T7) (g' := (mkF m 15 #[rv x, iv (1 : Int32), rv b1, .unset, .unset, .unset, .unset] [(.int (1 : Int32))])) (fun _ k_ => XS.iconst X7.here hx rfl (hb hby d6_14) k_) ?_
  refine own_st (T' := T7) (g' := (mkF m 19 #[rv x, iv (1 : Int32), rv b1, .unset, .unset, .unset, .unset] [(.int (1 : Int32))])) (fun _ k_ => XS.goto X7.here hx rfl (pc0 := 15) (pc' := 19) rfl (hb hby d6_15) (by decide) (by decide) k_) ?_
  refine own_st (T' := T7) (g' := (mkF m 20 #[rv x, iv (1 : Int32), rv b1, iv (1 : Int32), .unset, .unset, .unset] [])) (fun _ k_ => XS.istoreN X7.here hx rfl (hb hby d6_19) rfl (l' := #[rv x, iv (1 : Int32), rv b1, iv (1 : Int32), .unset, .unset, .unset]) rfl k_) ?_
  refine own_st (T' := T7) (g' := (mkF m 21 #[rv x, iv (1 : Int32), rv b1, iv (1 : Int32), .unset, .unset, .unset] [(.int (0 : Int32))])) (fun _ k_ => XS.iconst X7.here hx rfl (hb hby d6_20) k_) ?_
  refine own_st (T' := T7) (g' := (mkF m 23 #[rv x, iv (1 : Int32), rv b1, iv (1 : Int32), iv (0 : Int32), .unset, .unset] [])) (fun _ k_ => XS.istore X7.here hx rfl (hb hby d6_21) rfl (l' := #[rv x, iv (1 : Int32), rv b1, iv (1 : Int32), iv (0 : Int32), .unset, .unset]) rfl k_) ?_
  refine own_st (T' := T7) (g' := (mkF m 25 #[rv x, iv (1 : Int32), rv b1, iv (1 : Int32), iv (0 : Int32), .unset, .unset] [(.int (0 : Int32))])) (fun _ k_ => XS.iload X7.here hx rfl (hb hby d6_23) rfl  k_) ?_
  refine own_st (T' := T7) (g' := (mkF m 26 #[rv x, iv (1 : Int32), rv b1, iv (1 : Int32), iv (0 : Int32), .unset, .unset] [(.int (1 : Int32)), (.int (0 : Int32))])) (fun _ k_ => XS.iloadN X7.here hx rfl (hb hby d6_25) rfl  k_) ?_
  refine own_st (T' := T7) (g' := (mkF m 29 #[rv x, iv (1 : Int32), rv b1, iv (1 : Int32), iv (0 : Int32), .unset, .unset] [])) (fun _ k_ => XS.icmpNo X7.here hx rfl (hb hby d6_26) rfl (tlt (by decide : (0 : Int32) < (1 : Int32))).2.1 k_) ?_
  refine own_st (T' := T7) (g' := (mkF m 30 #[rv x, iv (1 : Int32), rv b1, iv (1 : Int32), iv (0 : Int32), .unset, .unset] [(.int (1 : Int32))])) (fun _ k_ => XS.iloadN X7.here hx rfl (hb hby d6_29) rfl  k_) ?_
  refine own_st (T' := T7) (g' := (mkF m 33 #[rv x, iv (1 : Int32), rv b1, iv (1 : Int32), iv (0 : Int32), .unset, .unset] [])) (fun _ k_ => XS.ifNo X7.here hx rfl (hb hby d6_30) rfl ((if0 _ _).trans (feq (by decide : ¬ ((1 : Int32) = (0 : Int32)))).1) k_) ?_
  refine own_st (T' := T7) (g' := (mkF m 34 #[rv x, iv (1 : Int32), rv b1, iv (1 : Int32), iv (0 : Int32), .unset, .unset] [(.ref x)])) (fun _ k_ => XS.aloadN X7.here hx rfl (hb hby d6_33) rfl rfl  k_) ?_
  refine own_st (T' := T7) (g' := (mkF m 35 #[rv x, iv (1 : Int32), rv b1, iv (1 : Int32), iv (0 : Int32), .unset, .unset] [(.int (2 : Int32)), (.ref x)])) (fun _ k_ => XS.iconst X7.here hx rfl (hb hby d6_34) k_) ?_
  refine own_st (T' := T7) (g' := (mkF m 37 #[rv x, iv (1 : Int32), rv b1, iv (1 : Int32), iv (0 : Int32), .unset, .unset] [(.int (0 : Int32)), (.int (2 : Int32)), (.ref x)])) (fun _ k_ => XS.iload X7.here hx rfl (hb hby d6_35) rfl  k_) ?_
  refine own_st (T' := T7) (g' := (mkF m 38 #[rv x, iv (1 : Int32), rv b1, iv (1 : Int32), iv (0 : Int32), .unset, .unset] [(.int (0 : Int32)), (.ref x)])) (fun _ k_ => XS.imul X7.here hx rfl (hb hby d6_37) rfl k_) ?_
  obtain ⟨cq8, kq8, q8a, q8b, q8c⟩ := isOf hZ eq7 f3
  obtain ⟨v8, T8, L8, X8, ⟨hv8, rfl, eq8⟩, st8⟩ := own_callV X7 hx (y := own_m5) (z := own_m5) hown (mvT hZ (hw _ (List.mem_of_getElem? (i := 80) rfl))) (mvT hZ (hw _ (List.mem_of_getElem? (i := 59) rfl))) (notFace_of_selects (args := #[]) (mvT hZ (hw _ (List.mem_of_getElem? (i := 61) rfl)))) (mvT hZ (hw _ (List.mem_of_getElem? (i := 61) rfl))) (mvT hZ (hw _ (List.mem_of_getElem? (i := 60) rfl))) (by decide) (rm := ({ frames := 0, cells := 0, slots := 0, locals := 0 } : Room)) (Q := fun v h' L => v = some (.int (List.getD ([c0, c1] : List Int32) 0 0)) ∧ L = [] ∧ h' = h1) (StrChars.Road.chN (W := 0) hZ (own_wCh hw) (kI := 4) (hw _ (List.mem_of_getElem? (i := 8) rfl)) f3 f4 f5 f6 (StrChars.Road.codOf (cs := ([c0, c1] : List Int32)) (n := List.length ([c0, c1] : List Int32)) rfl (fun c hc => ((own_cR2 c0 c1 hr0 hr1) c hc).2)) (own_up _ (own_cR2 c0 c1 hr0 hr1)) (SC.ext f2.2) hcz (SF.ext f2.2) hfm (Nat.le_of_ble_eq_true rfl) (i := 0) (Nat.le_of_ble_eq_true rfl) (j := (0 : Int32)) rfl (by decide) (by decide)) q8a q8c (g := (mkF m 38 #[rv x, iv (1 : Int32), rv b1, iv (1 : Int32), iv (0 : Int32), .unset, .unset] [(.int (0 : Int32)), (.ref x)])) rfl (by rw [hml]; rfl) (argsL := [(.int (0 : Int32))]) (rest := []) (lenOf pd__I_C rfl) rfl (by show 2 * 0 + _ ≤ _; exact Nat.le_of_eq rfl) (hb hby d6_38) rfl eq7 (by decide) (by decide) (c' := 1) (s' := 1) rfl rfl
  clear q8a q8b q8c kq8 cq8
  have N8 := Fr.app N7 (Fr.nil n0)
  obtain rfl : v8 = some (.int c0) := hv8.trans (congrArg (fun z => some (Value.int z)) rfl)
  refine own_st (T' := T8) (g' := (mkF m 41 #[rv x, iv (1 : Int32), rv b1, iv (1 : Int32), iv (0 : Int32), .unset, .unset] [(.int c0)])) st8 ?_
  clear st8
  obtain ⟨_, T9, L9, X9, hQ9, st9⟩ := own_callS X8 hx (y := own_m8) hown (mvT hZ (hw _ (List.mem_of_getElem? (i := 81) rfl))) (mvT hZ (hw _ (List.mem_of_getElem? (i := 82) rfl))) (mvT hZ (hw _ (List.mem_of_getElem? (i := 31) rfl))) (mvT hZ (hw _ (List.mem_of_getElem? (i := 83) rfl))) (by decide) (backOf (W := 0) (rm_hexv l Z a0 hw [] c0 hv_ clV h1 n0 f2 SV HV hr0) hZ (hw _ (List.mem_of_getElem? (i := 83) rfl)) (hw _ (List.mem_of_getElem? (i := 31) rfl)) (by decide) (by decide)) (g := (mkF m 41 #[rv x, iv (1 : Int32), rv b1, iv (1 : Int32), iv (0 : Int32), .unset, .unset] [(.int c0)])) rfl (by rw [hml]; rfl) (argsL := [(.int c0)]) (rest := []) (lenOf pd__C_I rfl) rfl (by show 2 * 0 + _ ≤ _; exact Nat.le_of_eq rfl) (hb hby d6_41) rfl eq8 (by decide) (by decide) (c' := 1) (s' := 1) rfl rfl
  obtain ⟨rfl, Nq9, eq9⟩ := hQ9
  have N9 := Fr.app N8 Nq9
  refine own_st (T' := T9) (g' := (mkF m 44 #[rv x, iv (1 : Int32), rv b1, iv (1 : Int32), iv (0 : Int32), .unset, .unset] [(.int (own_val c0))])) st9 ?_
  clear st9
  refine own_st (T' := T9) (g' := (mkF m 46 #[rv x, iv (1 : Int32), rv b1, iv (1 : Int32), iv (0 : Int32), iv (own_val c0), .unset] [])) (fun _ k_ => XS.istore X9.here hx rfl (hb hby d6_44) rfl (l' := #[rv x, iv (1 : Int32), rv b1, iv (1 : Int32), iv (0 : Int32), iv (own_val c0), .unset]) rfl k_) ?_
  refine own_st (T' := T9) (g' := (mkF m 47 #[rv x, iv (1 : Int32), rv b1, iv (1 : Int32), iv (0 : Int32), iv (own_val c0), .unset] [(.ref x)])) (fun _ k_ => XS.aloadN X9.here hx rfl (hb hby d6_46) rfl rfl  k_) ?_
  refine own_st (T' := T9) (g' := (mkF m 48 #[rv x, iv (1 : Int32), rv b1, iv (1 : Int32), iv (0 : Int32), iv (own_val c0), .unset] [(.int (2 : Int32)), (.ref x)])) (fun _ k_ => XS.iconst X9.here hx rfl (hb hby d6_47) k_) ?_
  refine own_st (T' := T9) (g' := (mkF m 50 #[rv x, iv (1 : Int32), rv b1, iv (1 : Int32), iv (0 : Int32), iv (own_val c0), .unset] [(.int (0 : Int32)), (.int (2 : Int32)), (.ref x)])) (fun _ k_ => XS.iload X9.here hx rfl (hb hby d6_48) rfl  k_) ?_
  refine own_st (T' := T9) (g' := (mkF m 51 #[rv x, iv (1 : Int32), rv b1, iv (1 : Int32), iv (0 : Int32), iv (own_val c0), .unset] [(.int (0 : Int32)), (.ref x)])) (fun _ k_ => XS.imul X9.here hx rfl (hb hby d6_50) rfl k_) ?_
  refine own_st (T' := T9) (g' := (mkF m 52 #[rv x, iv (1 : Int32), rv b1, iv (1 : Int32), iv (0 : Int32), iv (own_val c0), .unset] [(.int (1 : Int32)), (.int (0 : Int32)), (.ref x)])) (fun _ k_ => XS.iconst X9.here hx rfl (hb hby d6_51) k_) ?_
  refine own_st (T' := T9) (g' := (mkF m 53 #[rv x, iv (1 : Int32), rv b1, iv (1 : Int32), iv (0 : Int32), iv (own_val c0), .unset] [(.int (1 : Int32)), (.ref x)])) (fun _ k_ => XS.iadd X9.here hx rfl (hb hby d6_52) rfl k_) ?_
  obtain ⟨cq10, kq10, q10a, q10b, q10c⟩ := isOf hZ eq9 f3
  obtain ⟨v10, T10, L10, X10, ⟨hv10, rfl, eq10⟩, st10⟩ := own_callV X9 hx (y := own_m5) (z := own_m5) hown (mvT hZ (hw _ (List.mem_of_getElem? (i := 80) rfl))) (mvT hZ (hw _ (List.mem_of_getElem? (i := 59) rfl))) (notFace_of_selects (args := #[]) (mvT hZ (hw _ (List.mem_of_getElem? (i := 61) rfl)))) (mvT hZ (hw _ (List.mem_of_getElem? (i := 61) rfl))) (mvT hZ (hw _ (List.mem_of_getElem? (i := 60) rfl))) (by decide) (rm := ({ frames := 0, cells := 0, slots := 0, locals := 0 } : Room)) (Q := fun v h' L => v = some (.int (List.getD ([c0, c1] : List Int32) 1 0)) ∧ L = [] ∧ h' = h1) (StrChars.Road.chN (W := 0) hZ (own_wCh hw) (kI := 4) (hw _ (List.mem_of_getElem? (i := 8) rfl)) f3 f4 f5 f6 (StrChars.Road.codOf (cs := ([c0, c1] : List Int32)) (n := List.length ([c0, c1] : List Int32)) rfl (fun c hc => ((own_cR2 c0 c1 hr0 hr1) c hc).2)) (own_up _ (own_cR2 c0 c1 hr0 hr1)) (SC.ext f2.2) hcz (SF.ext f2.2) hfm (Nat.le_of_ble_eq_true rfl) (i := 1) (Nat.le_of_ble_eq_true rfl) (j := (1 : Int32)) rfl (by decide) (by decide)) q10a q10c (g := (mkF m 53 #[rv x, iv (1 : Int32), rv b1, iv (1 : Int32), iv (0 : Int32), iv (own_val c0), .unset] [(.int (1 : Int32)), (.ref x)])) rfl (by rw [hml]; rfl) (argsL := [(.int (1 : Int32))]) (rest := []) (lenOf pd__I_C rfl) rfl (by show 2 * 0 + _ ≤ _; exact Nat.le_of_eq rfl) (hb hby d6_53) rfl eq9 (by decide) (by decide) (c' := 1) (s' := 1) rfl rfl
  clear q10a q10b q10c kq10 cq10
  have N10 := Fr.app N9 (Fr.nil n0)
  obtain rfl : v10 = some (.int c1) := hv10.trans (congrArg (fun z => some (Value.int z)) rfl)
  refine own_st (T' := T10) (g' := (mkF m 56 #[rv x, iv (1 : Int32), rv b1, iv (1 : Int32), iv (0 : Int32), iv (own_val c0), .unset] [(.int c1)])) st10 ?_
  clear st10
  obtain ⟨_, T11, L11, X11, hQ11, st11⟩ := own_callS X10 hx (y := own_m8) hown (mvT hZ (hw _ (List.mem_of_getElem? (i := 81) rfl))) (mvT hZ (hw _ (List.mem_of_getElem? (i := 82) rfl))) (mvT hZ (hw _ (List.mem_of_getElem? (i := 31) rfl))) (mvT hZ (hw _ (List.mem_of_getElem? (i := 83) rfl))) (by decide) (backOf (W := 0) (rm_hexv l Z a0 hw [] c1 hv_ clV h1 n0 f2 SV HV hr1) hZ (hw _ (List.mem_of_getElem? (i := 83) rfl)) (hw _ (List.mem_of_getElem? (i := 31) rfl)) (by decide) (by decide)) (g := (mkF m 56 #[rv x, iv (1 : Int32), rv b1, iv (1 : Int32), iv (0 : Int32), iv (own_val c0), .unset] [(.int c1)])) rfl (by rw [hml]; rfl) (argsL := [(.int c1)]) (rest := []) (lenOf pd__C_I rfl) rfl (by show 2 * 0 + _ ≤ _; exact Nat.le_of_eq rfl) (hb hby d6_56) rfl eq10 (by decide) (by decide) (c' := 1) (s' := 1) rfl rfl
  obtain ⟨rfl, Nq11, eq11⟩ := hQ11
  have N11 := Fr.app N10 Nq11
  refine own_st (T' := T11) (g' := (mkF m 59 #[rv x, iv (1 : Int32), rv b1, iv (1 : Int32), iv (0 : Int32), iv (own_val c0), .unset] [(.int (own_val c1))])) st11 ?_
  clear st11
  refine own_st (T' := T11) (g' := (mkF m 61 #[rv x, iv (1 : Int32), rv b1, iv (1 : Int32), iv (0 : Int32), iv (own_val c0), iv (own_val c1)] [])) (fun _ k_ => XS.istore X11.here hx rfl (hb hby d6_59) rfl (l' := #[rv x, iv (1 : Int32), rv b1, iv (1 : Int32), iv (0 : Int32), iv (own_val c0), iv (own_val c1)]) rfl k_) ?_
  refine own_st (T' := T11) (g' := (mkF m 63 #[rv x, iv (1 : Int32), rv b1, iv (1 : Int32), iv (0 : Int32), iv (own_val c0), iv (own_val c1)] [(.int (own_val c0))])) (fun _ k_ => XS.iload X11.here hx rfl (hb hby d6_61) rfl  k_) ?_
  refine own_st (T' := T11) (g' := (mkF m 65 #[rv x, iv (1 : Int32), rv b1, iv (1 : Int32), iv (0 : Int32), iv (own_val c0), iv (own_val c1)] [(.int (own_val c1)), (.int (own_val c0))])) (fun _ k_ => XS.iload X11.here hx rfl (hb hby d6_63) rfl  k_) ?_
  refine own_st (T' := T11) (g' := (mkF m 66 #[rv x, iv (1 : Int32), rv b1, iv (1 : Int32), iv (0 : Int32), iv (own_val c0), iv (own_val c1)] [(.int ((own_val c0) ||| (own_val c1)))])) (fun _ k_ => XS.ior X11.here hx rfl (hb hby d6_65) rfl k_) ?_
  by_cases hc12 : ((own_val c0) ||| (own_val c1)) < (0 : Int32)
  · refine own_st (T' := T11) (g' := (mkF m 73 #[rv x, iv (1 : Int32), rv b1, iv (1 : Int32), iv (0 : Int32), iv (own_val c0), iv (own_val c1)] [])) (fun _ k_ => XS.ifYes X11.here hx rfl (pc0 := 66) (pc' := 73) rfl (hb hby d6_66) rfl ((if0 _ _).trans (tlt hc12).1) (by decide) (by decide) k_) ?_
    refine own_st (T' := T11) (g' := (mkF m 74 #[rv x, iv (1 : Int32), rv b1, iv (1 : Int32), iv (0 : Int32), iv (own_val c0), iv (own_val c1)] [(.int (0 : Int32))])) (fun _ k_ => XS.iconst X11.here hx rfl (hb hby d6_73) k_) ?_
    refine own_st (T' := T11) (g' := (mkF m 75 #[rv x, iv (1 : Int32), rv b1, iv (0 : Int32), iv (0 : Int32), iv (own_val c0), iv (own_val c1)] [])) (fun _ k_ => XS.istoreN X11.here hx rfl (hb hby d6_74) rfl (l' := #[rv x, iv (1 : Int32), rv b1, iv (0 : Int32), iv (0 : Int32), iv (own_val c0), iv (own_val c1)]) rfl k_) ?_
    refine own_st (T' := T11) (g' := (mkF m 76 #[rv x, iv (1 : Int32), rv b1, iv (0 : Int32), iv (0 : Int32), iv (own_val c0), iv (own_val c1)] [(.ref b1)])) (fun _ k_ => XS.aloadN X11.here hx rfl (hb hby d6_75) rfl rfl  k_) ?_
    refine own_st (T' := T11) (g' := (mkF m 78 #[rv x, iv (1 : Int32), rv b1, iv (0 : Int32), iv (0 : Int32), iv (own_val c0), iv (own_val c1)] [(.int (0 : Int32)), (.ref b1)])) (fun _ k_ => XS.iload X11.here hx rfl (hb hby d6_76) rfl  k_) ?_
    refine own_st (T' := T11) (g' := (mkF m 80 #[rv x, iv (1 : Int32), rv b1, iv (0 : Int32), iv (0 : Int32), iv (own_val c0), iv (own_val c1)] [(.int (own_val c0)), (.int (0 : Int32)), (.ref b1)])) (fun _ k_ => XS.iload X11.here hx rfl (hb hby d6_78) rfl  k_) ?_
    refine own_st (T' := T11) (g' := (mkF m 81 #[rv x, iv (1 : Int32), rv b1, iv (0 : Int32), iv (0 : Int32), iv (own_val c0), iv (own_val c1)] [(.int (4 : Int32)), (.int (own_val c0)), (.int (0 : Int32)), (.ref b1)])) (fun _ k_ => XS.iconst X11.here hx rfl (hb hby d6_80) k_) ?_
    refine own_st (T' := T11) (g' := (mkF m 82 #[rv x, iv (1 : Int32), rv b1, iv (0 : Int32), iv (0 : Int32), iv (own_val c0), iv (own_val c1)] [(.int ((own_val c0) <<< ((4 : Int32) &&& 31))), (.int (0 : Int32)), (.ref b1)])) (fun _ k_ => XS.ishl X11.here hx rfl (hb hby d6_81) rfl k_) ?_
    refine own_st (T' := T11) (g' := (mkF m 84 #[rv x, iv (1 : Int32), rv b1, iv (0 : Int32), iv (0 : Int32), iv (own_val c0), iv (own_val c1)] [(.int (own_val c1)), (.int ((own_val c0) <<< ((4 : Int32) &&& 31))), (.int (0 : Int32)), (.ref b1)])) (fun _ k_ => XS.iload X11.here hx rfl (hb hby d6_82) rfl  k_) ?_
    refine own_st (T' := T11) (g' := (mkF m 85 #[rv x, iv (1 : Int32), rv b1, iv (0 : Int32), iv (0 : Int32), iv (own_val c0), iv (own_val c1)] [(.int (((own_val c0) <<< ((4 : Int32) &&& 31)) ||| (own_val c1))), (.int (0 : Int32)), (.ref b1)])) (fun _ k_ => XS.ior X11.here hx rfl (hb hby d6_84) rfl k_) ?_
    refine own_st (T' := T11) (g' := (mkF m 86 #[rv x, iv (1 : Int32), rv b1, iv (0 : Int32), iv (0 : Int32), iv (own_val c0), iv (own_val c1)] [(.int ((((own_val c0) <<< ((4 : Int32) &&& 31)) ||| (own_val c1)).toInt8.toInt32)), (.int (0 : Int32)), (.ref b1)])) (fun _ k_ => XS.i2b X11.here hx rfl (hb hby d6_85) rfl k_) ?_
    obtain ⟨cl13, Ar13, q13, S13, N13, H13, G13⟩ := id V1
    have hin13 : ¬ ((0 : Int32) < 0 ∨ cl13.slots.size ≤ ((0 : Int32)).toNatClampNeg) := inb_of S13 ⟨by decide, by decide⟩
    obtain ⟨T14, h14, X14, e14, W14, st14⟩ := stB X11 hx hZ eq11 Ar13 (j := (0 : Int32)) hin13 (g := (mkF m 86 #[rv x, iv (1 : Int32), rv b1, iv (0 : Int32), iv (0 : Int32), iv (own_val c0), iv (own_val c1)] [(.int ((((own_val c0) <<< ((4 : Int32) &&& 31)) ||| (own_val c1)).toInt8.toInt32)), (.int (0 : Int32)), (.ref b1)])) rfl rfl (hb hby d6_86)
    have V14 : Arv Z h14 b1 k1 .byte (1 : Int32) [(.int (nar .byte ((((own_val c0) <<< ((4 : Int32) &&& 31)) ||| (own_val c1)).toInt8.toInt32)))] (.int (0 : Int32)) := Arv.set Ar13 q13 S13 N13 H13 G13 (fits_nar_byte _) W14 0 rfl (Nat.le_of_ble_eq_true rfl)
    have Vn14 : Arv Z h14 b1 k1 .byte (1 : Int32) [(.int ((((own_val c0) <<< ((4 : Int32) &&& 31)) ||| (own_val c1)).toInt8.toInt32))] (.int (0 : Int32)) := by simpa only [own_bb] using V14
    have Nx14 := Fr.snoc X14 N11 fr1
    refine own_st (T' := T14) (g' := (mkF m 87 #[rv x, iv (1 : Int32), rv b1, iv (0 : Int32), iv (0 : Int32), iv (own_val c0), iv (own_val c1)] [])) st14 ?_
    clear hin13 G13 H13 N13 S13 q13 Ar13 cl13 st14
    refine own_st (T' := T14) (g' := (mkF m 90 #[rv x, iv (1 : Int32), rv b1, iv (0 : Int32), iv (1 : Int32), iv (own_val c0), iv (own_val c1)] [])) (fun _ k_ => XS.iinc X14.here hx rfl (hb hby d6_87) rfl (l' := #[rv x, iv (1 : Int32), rv b1, iv (0 : Int32), iv (1 : Int32), iv (own_val c0), iv (own_val c1)]) rfl k_) ?_
    refine own_st (T' := T14) (g' := (mkF m 23 #[rv x, iv (1 : Int32), rv b1, iv (0 : Int32), iv (1 : Int32), iv (own_val c0), iv (own_val c1)] [])) (fun _ k_ => XS.goto X14.here hx rfl (pc0 := 90) (pc' := 23) rfl (hb hby d6_90) (by decide) (by decide) k_) ?_
    refine own_st (T' := T14) (g' := (mkF m 25 #[rv x, iv (1 : Int32), rv b1, iv (0 : Int32), iv (1 : Int32), iv (own_val c0), iv (own_val c1)] [(.int (1 : Int32))])) (fun _ k_ => XS.iload X14.here hx rfl (hb hby d6_23) rfl  k_) ?_
    refine own_st (T' := T14) (g' := (mkF m 26 #[rv x, iv (1 : Int32), rv b1, iv (0 : Int32), iv (1 : Int32), iv (own_val c0), iv (own_val c1)] [(.int (1 : Int32)), (.int (1 : Int32))])) (fun _ k_ => XS.iloadN X14.here hx rfl (hb hby d6_25) rfl  k_) ?_
    refine own_st (T' := T14) (g' := (mkF m 93 #[rv x, iv (1 : Int32), rv b1, iv (0 : Int32), iv (1 : Int32), iv (own_val c0), iv (own_val c1)] [])) (fun _ k_ => XS.icmpYes X14.here hx rfl (pc0 := 26) (pc' := 93) rfl (hb hby d6_26) rfl (flt (by decide : ¬ ((1 : Int32) < (1 : Int32)))).2.1 (by decide) (by decide) k_) ?_
    refine own_st (T' := T14) (g' := (mkF m 94 #[rv x, iv (1 : Int32), rv b1, iv (0 : Int32), iv (1 : Int32), iv (own_val c0), iv (own_val c1)] [(.int (0 : Int32))])) (fun _ k_ => XS.iloadN X14.here hx rfl (hb hby d6_93) rfl  k_) ?_
    refine own_st (T' := T14) (g' := (mkF m 101 #[rv x, iv (1 : Int32), rv b1, iv (0 : Int32), iv (1 : Int32), iv (own_val c0), iv (own_val c1)] [])) (fun _ k_ => XS.ifYes X14.here hx rfl (pc0 := 94) (pc' := 101) rfl (hb hby d6_94) rfl ((if0 _ _).trans (teq (rfl : (0 : Int32) = (0 : Int32))).1) (by decide) (by decide) k_) ?_
    refine own_st (T' := T14) (g' := (mkF m 102 #[rv x, iv (1 : Int32), rv b1, iv (0 : Int32), iv (1 : Int32), iv (own_val c0), iv (own_val c1)] [.null])) (fun _ k_ => XS.aconstNull X14.here hx rfl (hb hby d6_101) k_) ?_
    have f15 : Keep h0 h1 [] := (Keep.refl h0 []).ext E1
    have f16 : Keep h0 h14 [] := f15.wr W14 (Or.inr sz1)
    exact own_retA X14 hx hret rfl rfl hlk (hb hby d6_102) (by decide) (by decide) (by rw [e14]; exact ⟨.null, b1, k1, rfl, Nx14, f16, fun _ => rfl, fun q => absurd hc12 q⟩)
  · refine own_st (T' := T11) (g' := (mkF m 69 #[rv x, iv (1 : Int32), rv b1, iv (1 : Int32), iv (0 : Int32), iv (own_val c0), iv (own_val c1)] [])) (fun _ k_ => XS.ifNo X11.here hx rfl (hb hby d6_66) rfl ((if0 _ _).trans (flt hc12).1) k_) ?_
    refine own_st (T' := T11) (g' := (mkF m 70 #[rv x, iv (1 : Int32), rv b1, iv (1 : Int32), iv (0 : Int32), iv (own_val c0), iv (own_val c1)] [(.int (1 : Int32))])) (fun _ k_ => XS.iconst X11.here hx rfl (hb hby d6_69) k_) ?_
    refine own_st (T' := T11) (g' := (mkF m 74 #[rv x, iv (1 : Int32), rv b1, iv (1 : Int32), iv (0 : Int32), iv (own_val c0), iv (own_val c1)] [(.int (1 : Int32))])) (fun _ k_ => XS.goto X11.here hx rfl (pc0 := 70) (pc' := 74) rfl (hb hby d6_70) (by decide) (by decide) k_) ?_
    refine own_st (T' := T11) (g' := (mkF m 75 #[rv x, iv (1 : Int32), rv b1, iv (1 : Int32), iv (0 : Int32), iv (own_val c0), iv (own_val c1)] [])) (fun _ k_ => XS.istoreN X11.here hx rfl (hb hby d6_74) rfl (l' := #[rv x, iv (1 : Int32), rv b1, iv (1 : Int32), iv (0 : Int32), iv (own_val c0), iv (own_val c1)]) rfl k_) ?_
    refine own_st (T' := T11) (g' := (mkF m 76 #[rv x, iv (1 : Int32), rv b1, iv (1 : Int32), iv (0 : Int32), iv (own_val c0), iv (own_val c1)] [(.ref b1)])) (fun _ k_ => XS.aloadN X11.here hx rfl (hb hby d6_75) rfl rfl  k_) ?_
    refine own_st (T' := T11) (g' := (mkF m 78 #[rv x, iv (1 : Int32), rv b1, iv (1 : Int32), iv (0 : Int32), iv (own_val c0), iv (own_val c1)] [(.int (0 : Int32)), (.ref b1)])) (fun _ k_ => XS.iload X11.here hx rfl (hb hby d6_76) rfl  k_) ?_
    refine own_st (T' := T11) (g' := (mkF m 80 #[rv x, iv (1 : Int32), rv b1, iv (1 : Int32), iv (0 : Int32), iv (own_val c0), iv (own_val c1)] [(.int (own_val c0)), (.int (0 : Int32)), (.ref b1)])) (fun _ k_ => XS.iload X11.here hx rfl (hb hby d6_78) rfl  k_) ?_
    refine own_st (T' := T11) (g' := (mkF m 81 #[rv x, iv (1 : Int32), rv b1, iv (1 : Int32), iv (0 : Int32), iv (own_val c0), iv (own_val c1)] [(.int (4 : Int32)), (.int (own_val c0)), (.int (0 : Int32)), (.ref b1)])) (fun _ k_ => XS.iconst X11.here hx rfl (hb hby d6_80) k_) ?_
    refine own_st (T' := T11) (g' := (mkF m 82 #[rv x, iv (1 : Int32), rv b1, iv (1 : Int32), iv (0 : Int32), iv (own_val c0), iv (own_val c1)] [(.int ((own_val c0) <<< ((4 : Int32) &&& 31))), (.int (0 : Int32)), (.ref b1)])) (fun _ k_ => XS.ishl X11.here hx rfl (hb hby d6_81) rfl k_) ?_
    refine own_st (T' := T11) (g' := (mkF m 84 #[rv x, iv (1 : Int32), rv b1, iv (1 : Int32), iv (0 : Int32), iv (own_val c0), iv (own_val c1)] [(.int (own_val c1)), (.int ((own_val c0) <<< ((4 : Int32) &&& 31))), (.int (0 : Int32)), (.ref b1)])) (fun _ k_ => XS.iload X11.here hx rfl (hb hby d6_82) rfl  k_) ?_
    refine own_st (T' := T11) (g' := (mkF m 85 #[rv x, iv (1 : Int32), rv b1, iv (1 : Int32), iv (0 : Int32), iv (own_val c0), iv (own_val c1)] [(.int (((own_val c0) <<< ((4 : Int32) &&& 31)) ||| (own_val c1))), (.int (0 : Int32)), (.ref b1)])) (fun _ k_ => XS.ior X11.here hx rfl (hb hby d6_84) rfl k_) ?_
    refine own_st (T' := T11) (g' := (mkF m 86 #[rv x, iv (1 : Int32), rv b1, iv (1 : Int32), iv (0 : Int32), iv (own_val c0), iv (own_val c1)] [(.int ((((own_val c0) <<< ((4 : Int32) &&& 31)) ||| (own_val c1)).toInt8.toInt32)), (.int (0 : Int32)), (.ref b1)])) (fun _ k_ => XS.i2b X11.here hx rfl (hb hby d6_85) rfl k_) ?_
    obtain ⟨cl17, Ar17, q17, S17, N17, H17, G17⟩ := id V1
    have hin17 : ¬ ((0 : Int32) < 0 ∨ cl17.slots.size ≤ ((0 : Int32)).toNatClampNeg) := inb_of S17 ⟨by decide, by decide⟩
    obtain ⟨T18, h18, X18, e18, W18, st18⟩ := stB X11 hx hZ eq11 Ar17 (j := (0 : Int32)) hin17 (g := (mkF m 86 #[rv x, iv (1 : Int32), rv b1, iv (1 : Int32), iv (0 : Int32), iv (own_val c0), iv (own_val c1)] [(.int ((((own_val c0) <<< ((4 : Int32) &&& 31)) ||| (own_val c1)).toInt8.toInt32)), (.int (0 : Int32)), (.ref b1)])) rfl rfl (hb hby d6_86)
    have V18 : Arv Z h18 b1 k1 .byte (1 : Int32) [(.int (nar .byte ((((own_val c0) <<< ((4 : Int32) &&& 31)) ||| (own_val c1)).toInt8.toInt32)))] (.int (0 : Int32)) := Arv.set Ar17 q17 S17 N17 H17 G17 (fits_nar_byte _) W18 0 rfl (Nat.le_of_ble_eq_true rfl)
    have Vn18 : Arv Z h18 b1 k1 .byte (1 : Int32) [(.int ((((own_val c0) <<< ((4 : Int32) &&& 31)) ||| (own_val c1)).toInt8.toInt32))] (.int (0 : Int32)) := by simpa only [own_bb] using V18
    have Nx18 := Fr.snoc X18 N11 fr1
    refine own_st (T' := T18) (g' := (mkF m 87 #[rv x, iv (1 : Int32), rv b1, iv (1 : Int32), iv (0 : Int32), iv (own_val c0), iv (own_val c1)] [])) st18 ?_
    clear hin17 G17 H17 N17 S17 q17 Ar17 cl17 st18
    refine own_st (T' := T18) (g' := (mkF m 90 #[rv x, iv (1 : Int32), rv b1, iv (1 : Int32), iv (1 : Int32), iv (own_val c0), iv (own_val c1)] [])) (fun _ k_ => XS.iinc X18.here hx rfl (hb hby d6_87) rfl (l' := #[rv x, iv (1 : Int32), rv b1, iv (1 : Int32), iv (1 : Int32), iv (own_val c0), iv (own_val c1)]) rfl k_) ?_
    refine own_st (T' := T18) (g' := (mkF m 23 #[rv x, iv (1 : Int32), rv b1, iv (1 : Int32), iv (1 : Int32), iv (own_val c0), iv (own_val c1)] [])) (fun _ k_ => XS.goto X18.here hx rfl (pc0 := 90) (pc' := 23) rfl (hb hby d6_90) (by decide) (by decide) k_) ?_
    refine own_st (T' := T18) (g' := (mkF m 25 #[rv x, iv (1 : Int32), rv b1, iv (1 : Int32), iv (1 : Int32), iv (own_val c0), iv (own_val c1)] [(.int (1 : Int32))])) (fun _ k_ => XS.iload X18.here hx rfl (hb hby d6_23) rfl  k_) ?_
    refine own_st (T' := T18) (g' := (mkF m 26 #[rv x, iv (1 : Int32), rv b1, iv (1 : Int32), iv (1 : Int32), iv (own_val c0), iv (own_val c1)] [(.int (1 : Int32)), (.int (1 : Int32))])) (fun _ k_ => XS.iloadN X18.here hx rfl (hb hby d6_25) rfl  k_) ?_
    refine own_st (T' := T18) (g' := (mkF m 93 #[rv x, iv (1 : Int32), rv b1, iv (1 : Int32), iv (1 : Int32), iv (own_val c0), iv (own_val c1)] [])) (fun _ k_ => XS.icmpYes X18.here hx rfl (pc0 := 26) (pc' := 93) rfl (hb hby d6_26) rfl (flt (by decide : ¬ ((1 : Int32) < (1 : Int32)))).2.1 (by decide) (by decide) k_) ?_
    refine own_st (T' := T18) (g' := (mkF m 94 #[rv x, iv (1 : Int32), rv b1, iv (1 : Int32), iv (1 : Int32), iv (own_val c0), iv (own_val c1)] [(.int (1 : Int32))])) (fun _ k_ => XS.iloadN X18.here hx rfl (hb hby d6_93) rfl  k_) ?_
    refine own_st (T' := T18) (g' := (mkF m 97 #[rv x, iv (1 : Int32), rv b1, iv (1 : Int32), iv (1 : Int32), iv (own_val c0), iv (own_val c1)] [])) (fun _ k_ => XS.ifNo X18.here hx rfl (hb hby d6_94) rfl ((if0 _ _).trans (feq (by decide : ¬ ((1 : Int32) = (0 : Int32)))).1) k_) ?_
    refine own_st (T' := T18) (g' := (mkF m 98 #[rv x, iv (1 : Int32), rv b1, iv (1 : Int32), iv (1 : Int32), iv (own_val c0), iv (own_val c1)] [(.ref b1)])) (fun _ k_ => XS.aloadN X18.here hx rfl (hb hby d6_97) rfl rfl  k_) ?_
    refine own_st (T' := T18) (g' := (mkF m 102 #[rv x, iv (1 : Int32), rv b1, iv (1 : Int32), iv (1 : Int32), iv (own_val c0), iv (own_val c1)] [(.ref b1)])) (fun _ k_ => XS.goto X18.here hx rfl (pc0 := 98) (pc' := 102) rfl (hb hby d6_98) (by decide) (by decide) k_) ?_
    have f19 : Keep h0 h1 [] := (Keep.refl h0 []).ext E1
    have f20 : Keep h0 h18 [] := f19.wr W18 (Or.inr sz1)
    exact own_retA X18 hx hret rfl rfl hlk (hb hby d6_102) (by decide) (by decide) (by rw [e18]; exact ⟨.ref b1, b1, k1, rfl, Nx18, f20, fun q => absurd q hc12, fun _ => ⟨rfl, Vn18⟩⟩)
theorem own_cR4 (c0 : Int32) (c1 : Int32) (c2 : Int32) (c3 : Int32) (hr0 : ¬ c0 < 0 ∧ ¬ (255 : Int32) < c0) (hr1 : ¬ c1 < 0 ∧ ¬ (255 : Int32) < c1) (hr2 : ¬ c2 < 0 ∧ ¬ (255 : Int32) < c2) (hr3 : ¬ c3 < 0 ∧ ¬ (255 : Int32) < c3) : ∀ c ∈ ([c0, c1, c2, c3] : List Int32), ¬ c < 0 ∧ ¬ (255 : Int32) < c := (by intro c hc; simp only [List.mem_cons, List.not_mem_nil, or_false] at hc; rcases hc with rfl | rfl | rfl | rfl <;> assumption)
theorem ef_rh2 (m : MethodId) (x0 : Addr) (x1 : Int32) : entryFrame m #[(.ref x0), (.int x1)] 7 = mkF m 0 #[rv x0, iv x1, .unset, .unset, .unset, .unset, .unset] [] := by first | (simp [entryFrame, mkF, argsToLocals, Value.category]; done) | rfl
def Q_rh2 (Z : State) (x : Addr) (t : Addr) (kt : ClassId) (c0 : Int32) (c1 : Int32) (c2 : Int32) (c3 : Int32) (cz : Int32) (fm : Value) (hv_ : Addr) (clV : Cell) (h0 : Heap) (n0 : Nat) (v : Option Value) (h : Heap) (L : List Loc) : Prop := ∃ (r : Value) (b : Addr) (kb : ClassId), (v = some r) ∧ (Fr n0 L) ∧ (Keep h0 h []) ∧ ((((own_val c0 ||| own_val c1) < 0) ∨ ((own_val c2 ||| own_val c3) < 0)) → r = .null) ∧ (¬ (((own_val c0 ||| own_val c1) < 0) ∨ ((own_val c2 ||| own_val c3) < 0)) → r = .ref b ∧ Arv Z h b kb .byte (2 : Int32) [(.int (((own_val c0 <<< ((4 : Int32) &&& 31)) ||| own_val c1).toInt8.toInt32)), (.int (((own_val c2 <<< ((4 : Int32) &&& 31)) ||| own_val c3).toInt8.toInt32))] (.int (0 : Int32)))
set_option maxRecDepth 65536 in
set_option maxHeartbeats 40000000 in
theorem rm_rh2 (l : Launch) (Z : State) (a0 : Array Value) (hw : ∀ d ∈ tables_1, d.before a0 Z = true) (ws : List Jvm.Cond) (x : Addr) (t : Addr) (kt : ClassId) (c0 : Int32) (c1 : Int32) (c2 : Int32) (c3 : Int32) (cz : Int32) (fm : Value) (hv_ : Addr) (clV : Cell) (h0 : Heap) (n0 : Nat) (O0 : Old Z n0 h0) (E_x : Exa Z h0 x "java/lang/String") (V_x : Fld Z h0 x "java/lang/String" "value" "[B" (.ref t)) (C_x : Fld Z h0 x "java/lang/String" "coder" "B" (.int (0 : Int32))) (A_x : Arv Z h0 t kt .byte (4 : Int32) [(.int (c0.toInt8.toInt32)), (.int (c1.toInt8.toInt32)), (.int (c2.toInt8.toInt32)), (.int (c3.toInt8.toInt32))] (.int (0 : Int32))) (hr0 : ¬ c0 < 0 ∧ ¬ (255 : Int32) < c0) (hr1 : ¬ c1 < 0 ∧ ¬ (255 : Int32) < c1) (hr2 : ¬ c2 < 0 ∧ ¬ (255 : Int32) < c2) (hr3 : ¬ c3 < 0 ∧ ¬ (255 : Int32) < c3) (SC : Sta Z Z.heap "java/lang/String" "COMPACT_STRINGS" "Z" (.int cz)) (hcz : ¬ cz = (0 : Int32)) (SF : Sta Z Z.heap "jdk/internal/util/Preconditions" "SIOOBE_FORMATTER" "Ljava/util/function/BiFunction;" fm) (hfm : fm.isRef = true) (SV : Sta Z Z.heap "com/example/vouchsafe/vouchsafe/Digests" "HEX_VALUES" "[B" (.ref hv_)) (HV : own_HV Z hv_ clV) :
    MetFree l own_m11 (head1 (Jvm.Cond.code own_m11 prog_18_method_9_code 7 (some (.array .byte)) :: ws) ({ frames := 4, cells := 1, slots := 2, locals := 53 } : Room)) (fun ar_ U => ar_ = #[(.ref x), (.int (2 : Int32))] ∧ Z.Warmed39 U.vm ∧ U.heap = h0) (fun _ _ _ _ _ => True) (fun _ U o U' => ∃ v L, o = .returned v ∧ Q_rh2 Z x t kt c0 c1 c2 c3 cz fm hv_ clV h0 n0 v U'.heap L ∧ FrameEnd U o U' L ({ frames := 4, cells := 1, slots := 2, locals := 53 } : Room).cells ({ frames := 4, cells := 1, slots := 2, locals := 53 } : Room).slots) := by
  refine MetFree.of_bodySF (plainFor_of_name pn_3) hisR ?_
  intro p e s m args below meth c s₁ Bd hml0 hP hK
  obtain ⟨rfl, hZ, hh⟩ := hP
  have hx := Bd.exec
  have hby := Bd.bytes
  have hml : c.maxLocals = 7 := hml0
  have hown : s.vm.findClass "com/example/vouchsafe/vouchsafe/Digests" = some m.cls := findClass_of_methodNamed Bd.named
  have hnm := (name_of_methodNamed Bd.named Bd.method).1
  have X0 : Stand p l e ({ frames := 4, cells := 1, slots := 2, locals := 53 } : Room) s m #[(.ref x), (.int (2 : Int32))] below meth c s₁ [] 0 0 := Stand.of_body Bd
  have e0 : s₁.heap = h0 := by rw [← hh, Bd.state]; rfl
  have N0 := Fr.nil n0
  have hret := Bd.returns
  have hlk : meth.locks = false := Bd.notSynchronized
  show own_E p e below s ({ frames := 4, cells := 1, slots := 2, locals := 53 } : Room).cells ({ frames := 4, cells := 1, slots := 2, locals := 53 } : Room).slots (Q_rh2 Z x t kt c0 c1 c2 c3 cz fm hv_ clV h0 n0) s₁ (entryFrame m #[(.ref x), (.int (2 : Int32))] 7)
  rw [ef_rh2 m x (2 : Int32)]
  refine own_st (T' := s₁) (g' := (mkF m 1 #[rv x, iv (2 : Int32), .unset, .unset, .unset, .unset, .unset] [(.int (2 : Int32))])) (fun _ k_ => XS.iloadN X0.here hx rfl (hb hby d6_0) rfl  k_) ?_
  obtain ⟨T1, h1, k1, X1, e1, E1, A1, st1⟩ := newP X0 hx hZ (hw _ (List.mem_of_getElem? (i := 22) rfl)) e0 (g := (mkF m 1 #[rv x, iv (2 : Int32), .unset, .unset, .unset, .unset, .unset] [(.int (2 : Int32))])) rfl (hb hby d6_1) rfl (by decide) (cap := 2) (by decide) (by decide) (by decide) (by decide)
  obtain ⟨b1, g1⟩ : ∃ z, z = h0.size := ⟨_, rfl⟩
  rw [← g1] at A1 st1
  have fr1 : n0 ≤ b1 := Nat.le_trans (own_z O0) (Nat.le_of_eq g1.symm)
  have sz1 : h0.size ≤ b1 := Nat.le_trans (Keep.refl h0 []).1 (Nat.le_of_eq g1.symm)
  have V1 : Arv Z h1 b1 k1 .byte (2 : Int32) [(.int (0 : Int32)), (.int (0 : Int32))] (.int (0 : Int32)) := (Arv.new A1 (by decide)).pad (pad_rep [] (.int (0 : Int32)) 2)
  refine own_st (T' := T1) (g' := (mkF m 3 #[rv x, iv (2 : Int32), .unset, .unset, .unset, .unset, .unset] [(.ref b1)])) st1 ?_
  clear st1
  refine own_st (T' := T1) (g' := (mkF m 4 #[rv x, iv (2 : Int32), rv b1, .unset, .unset, .unset, .unset] [])) (fun _ k_ => XS.astoreN X1.here hx rfl (hb hby d6_3) rfl rfl (l' := #[rv x, iv (2 : Int32), rv b1, .unset, .unset, .unset, .unset]) rfl k_) ?_
  refine own_st (T' := T1) (g' := (mkF m 5 #[rv x, iv (2 : Int32), rv b1, .unset, .unset, .unset, .unset] [(.ref x)])) (fun _ k_ => XS.aloadN X1.here hx rfl (hb hby d6_4) rfl rfl  k_) ?_
  have f2 : Old Z n0 h1 := O0.ext E1
  have f3 : Exa Z h1 x "java/lang/String" := E_x.ext E1
  have f4 : Fld Z h1 x "java/lang/String" "value" "[B" (.ref t) := V_x.ext E1
  have f5 : Fld Z h1 x "java/lang/String" "coder" "B" (.int (0 : Int32)) := C_x.ext E1
  have f6 : Arv Z h1 t kt .byte (4 : Int32) [(.int (c0.toInt8.toInt32)), (.int (c1.toInt8.toInt32)), (.int (c2.toInt8.toInt32)), (.int (c3.toInt8.toInt32))] (.int (0 : Int32)) := A_x.ext E1
  obtain ⟨cq7, kq7, q7a, q7b, q7c⟩ := isOf hZ e1 f3
  obtain ⟨v7, T7, L7, X7, ⟨hv7, rfl, eq7⟩, st7⟩ := own_callV X1 hx (y := own_m10) (z := own_m10) hown (mvT hZ (hw _ (List.mem_of_getElem? (i := 33) rfl))) (mvT hZ (hw _ (List.mem_of_getElem? (i := 34) rfl))) (notFace_of_selects (args := #[]) (mvT hZ (hw _ (List.mem_of_getElem? (i := 36) rfl)))) (mvT hZ (hw _ (List.mem_of_getElem? (i := 36) rfl))) (mvT hZ (hw _ (List.mem_of_getElem? (i := 35) rfl))) (by decide) (rm := ({ frames := 0, cells := 0, slots := 0, locals := 0 } : Room)) (Q := fun v h' L => v = some (.int (Int32.ofNat (List.length ([c0, c1, c2, c3] : List Int32)))) ∧ L = [] ∧ h' = h1) (StrChars.Road.lenW (W := 0) hZ (own_wLen hw) (kI := 4) (hw _ (List.mem_of_getElem? (i := 8) rfl)) f3 f4 f5 f6 (StrChars.Road.codOf (cs := ([c0, c1, c2, c3] : List Int32)) (n := List.length ([c0, c1, c2, c3] : List Int32)) rfl (fun c hc => ((own_cR4 c0 c1 c2 c3 hr0 hr1 hr2 hr3) c hc).2)) (own_up _ (own_cR4 c0 c1 c2 c3 hr0 hr1 hr2 hr3)) (SC.ext f2.2) hcz (Nat.le_of_ble_eq_true rfl) (by decide) (by decide)) q7a q7c (g := (mkF m 5 #[rv x, iv (2 : Int32), rv b1, .unset, .unset, .unset, .unset] [(.ref x)])) rfl (by rw [hml]; rfl) (argsL := []) (rest := []) (lenOf pd___I rfl) rfl (by show 2 * 0 + _ ≤ _; exact Nat.le_of_eq rfl) (hb hby d6_5) rfl e1 (by decide) (by decide) (c' := 1) (s' := 2) rfl rfl
  clear q7a q7b q7c kq7 cq7
  have N7 := Fr.app N0 (Fr.nil n0)
  obtain rfl : v7 = some (.int (4 : Int32)) := hv7.trans (congrArg (fun z => some (Value.int z)) rfl)
  refine own_st (T' := T7) (g' := (mkF m 8 #[rv x, iv (2 : Int32), rv b1, .unset, .unset, .unset, .unset] [(.int (4 : Int32))])) st7 ?_
  clear st7
  refine own_st (T' := T7) (g' := (mkF m 9 #[rv x, iv (2 : Int32), rv b1, .unset, .unset, .unset, .unset] [(.int (2 : Int32)), (.int (4 : Int32))])) (fun _ k_ => XS.iconst X7.here hx rfl (hb hby d6_8) k_) ?_
  refine own_st (T' := T7) (g' := (mkF m 10 #[rv x, iv (2 : Int32), rv b1, .unset, .unset, .unset, .unset] [(.int (2 : Int32)), (.int (2 : Int32)), (.int (4 : Int32))])) (fun _ k_ => XS.iloadN X7.here hx rfl (hb hby d6_9) rfl  k_) ?_
  refine own_st (T' := T7) (g' := (mkF m 11 #[rv x, iv (2 : Int32), rv b1, .unset, .unset, .unset, .unset] [(.int (4 : Int32)), (.int (4 : Int32))])) (fun _ k_ => XS.imul X7.here hx rfl (hb hby d6_10) rfl k_) ?_
  refine own_st (T' := T7) (g' := (mkF m 14 #[rv x, iv (2 : Int32), rv b1, .unset, .unset, .unset, .unset] [])) (fun _ k_ => XS.icmpNo X7.here hx rfl (hb hby d6_11) rfl (teq (rfl : (4 : Int32) = (4 : Int32))).2 k_) ?_
  refine own_st (T' := T7) (g' := (mkF m 15 #[rv x, iv (2 : Int32), rv b1, .unset, .unset, .unset, .unset] [(.int (1 : Int32))])) (fun _ k_ => XS.iconst X7.here hx rfl (hb hby d6_14) k_) ?_
  refine own_st (T' := T7) (g' := (mkF m 19 #[rv x, iv (2 : Int32), rv b1, .unset, .unset, .unset, .unset] [(.int (1 : Int32))])) (fun _ k_ => XS.goto X7.here hx rfl (pc0 := 15) (pc' := 19) rfl (hb hby d6_15) (by decide) (by decide) k_) ?_
  refine own_st (T' := T7) (g' := (mkF m 20 #[rv x, iv (2 : Int32), rv b1, iv (1 : Int32), .unset, .unset, .unset] [])) (fun _ k_ => XS.istoreN X7.here hx rfl (hb hby d6_19) rfl (l' := #[rv x, iv (2 : Int32), rv b1, iv (1 : Int32), .unset, .unset, .unset]) rfl k_) ?_
  refine own_st (T' := T7) (g' := (mkF m 21 #[rv x, iv (2 : Int32), rv b1, iv (1 : Int32), .unset, .unset, .unset] [(.int (0 : Int32))])) (fun _ k_ => XS.iconst X7.here hx rfl (hb hby d6_20) k_) ?_
  refine own_st (T' := T7) (g' := (mkF m 23 #[rv x, iv (2 : Int32), rv b1, iv (1 : Int32), iv (0 : Int32), .unset, .unset] [])) (fun _ k_ => XS.istore X7.here hx rfl (hb hby d6_21) rfl (l' := #[rv x, iv (2 : Int32), rv b1, iv (1 : Int32), iv (0 : Int32), .unset, .unset]) rfl k_) ?_
  refine own_st (T' := T7) (g' := (mkF m 25 #[rv x, iv (2 : Int32), rv b1, iv (1 : Int32), iv (0 : Int32), .unset, .unset] [(.int (0 : Int32))])) (fun _ k_ => XS.iload X7.here hx rfl (hb hby d6_23) rfl  k_) ?_
  refine own_st (T' := T7) (g' := (mkF m 26 #[rv x, iv (2 : Int32), rv b1, iv (1 : Int32), iv (0 : Int32), .unset, .unset] [(.int (2 : Int32)), (.int (0 : Int32))])) (fun _ k_ => XS.iloadN X7.here hx rfl (hb hby d6_25) rfl  k_) ?_
  refine own_st (T' := T7) (g' := (mkF m 29 #[rv x, iv (2 : Int32), rv b1, iv (1 : Int32), iv (0 : Int32), .unset, .unset] [])) (fun _ k_ => XS.icmpNo X7.here hx rfl (hb hby d6_26) rfl (tlt (by decide : (0 : Int32) < (2 : Int32))).2.1 k_) ?_
  refine own_st (T' := T7) (g' := (mkF m 30 #[rv x, iv (2 : Int32), rv b1, iv (1 : Int32), iv (0 : Int32), .unset, .unset] [(.int (1 : Int32))])) (fun _ k_ => XS.iloadN X7.here hx rfl (hb hby d6_29) rfl  k_) ?_
  refine own_st (T' := T7) (g' := (mkF m 33 #[rv x, iv (2 : Int32), rv b1, iv (1 : Int32), iv (0 : Int32), .unset, .unset] [])) (fun _ k_ => XS.ifNo X7.here hx rfl (hb hby d6_30) rfl ((if0 _ _).trans (feq (by decide : ¬ ((1 : Int32) = (0 : Int32)))).1) k_) ?_
  refine own_st (T' := T7) (g' := (mkF m 34 #[rv x, iv (2 : Int32), rv b1, iv (1 : Int32), iv (0 : Int32), .unset, .unset] [(.ref x)])) (fun _ k_ => XS.aloadN X7.here hx rfl (hb hby d6_33) rfl rfl  k_) ?_
  refine own_st (T' := T7) (g' := (mkF m 35 #[rv x, iv (2 : Int32), rv b1, iv (1 : Int32), iv (0 : Int32), .unset, .unset] [(.int (2 : Int32)), (.ref x)])) (fun _ k_ => XS.iconst X7.here hx rfl (hb hby d6_34) k_) ?_
  refine own_st (T' := T7) (g' := (mkF m 37 #[rv x, iv (2 : Int32), rv b1, iv (1 : Int32), iv (0 : Int32), .unset, .unset] [(.int (0 : Int32)), (.int (2 : Int32)), (.ref x)])) (fun _ k_ => XS.iload X7.here hx rfl (hb hby d6_35) rfl  k_) ?_
  refine own_st (T' := T7) (g' := (mkF m 38 #[rv x, iv (2 : Int32), rv b1, iv (1 : Int32), iv (0 : Int32), .unset, .unset] [(.int (0 : Int32)), (.ref x)])) (fun _ k_ => XS.imul X7.here hx rfl (hb hby d6_37) rfl k_) ?_
  obtain ⟨cq8, kq8, q8a, q8b, q8c⟩ := isOf hZ eq7 f3
  obtain ⟨v8, T8, L8, X8, ⟨hv8, rfl, eq8⟩, st8⟩ := own_callV X7 hx (y := own_m5) (z := own_m5) hown (mvT hZ (hw _ (List.mem_of_getElem? (i := 80) rfl))) (mvT hZ (hw _ (List.mem_of_getElem? (i := 59) rfl))) (notFace_of_selects (args := #[]) (mvT hZ (hw _ (List.mem_of_getElem? (i := 61) rfl)))) (mvT hZ (hw _ (List.mem_of_getElem? (i := 61) rfl))) (mvT hZ (hw _ (List.mem_of_getElem? (i := 60) rfl))) (by decide) (rm := ({ frames := 0, cells := 0, slots := 0, locals := 0 } : Room)) (Q := fun v h' L => v = some (.int (List.getD ([c0, c1, c2, c3] : List Int32) 0 0)) ∧ L = [] ∧ h' = h1) (StrChars.Road.chN (W := 0) hZ (own_wCh hw) (kI := 4) (hw _ (List.mem_of_getElem? (i := 8) rfl)) f3 f4 f5 f6 (StrChars.Road.codOf (cs := ([c0, c1, c2, c3] : List Int32)) (n := List.length ([c0, c1, c2, c3] : List Int32)) rfl (fun c hc => ((own_cR4 c0 c1 c2 c3 hr0 hr1 hr2 hr3) c hc).2)) (own_up _ (own_cR4 c0 c1 c2 c3 hr0 hr1 hr2 hr3)) (SC.ext f2.2) hcz (SF.ext f2.2) hfm (Nat.le_of_ble_eq_true rfl) (i := 0) (Nat.le_of_ble_eq_true rfl) (j := (0 : Int32)) rfl (by decide) (by decide)) q8a q8c (g := (mkF m 38 #[rv x, iv (2 : Int32), rv b1, iv (1 : Int32), iv (0 : Int32), .unset, .unset] [(.int (0 : Int32)), (.ref x)])) rfl (by rw [hml]; rfl) (argsL := [(.int (0 : Int32))]) (rest := []) (lenOf pd__I_C rfl) rfl (by show 2 * 0 + _ ≤ _; exact Nat.le_of_eq rfl) (hb hby d6_38) rfl eq7 (by decide) (by decide) (c' := 1) (s' := 2) rfl rfl
  clear q8a q8b q8c kq8 cq8
  have N8 := Fr.app N7 (Fr.nil n0)
  obtain rfl : v8 = some (.int c0) := hv8.trans (congrArg (fun z => some (Value.int z)) rfl)
  refine own_st (T' := T8) (g' := (mkF m 41 #[rv x, iv (2 : Int32), rv b1, iv (1 : Int32), iv (0 : Int32), .unset, .unset] [(.int c0)])) st8 ?_
  clear st8
  obtain ⟨_, T9, L9, X9, hQ9, st9⟩ := own_callS X8 hx (y := own_m8) hown (mvT hZ (hw _ (List.mem_of_getElem? (i := 81) rfl))) (mvT hZ (hw _ (List.mem_of_getElem? (i := 82) rfl))) (mvT hZ (hw _ (List.mem_of_getElem? (i := 31) rfl))) (mvT hZ (hw _ (List.mem_of_getElem? (i := 83) rfl))) (by decide) (backOf (W := 0) (rm_hexv l Z a0 hw [] c0 hv_ clV h1 n0 f2 SV HV hr0) hZ (hw _ (List.mem_of_getElem? (i := 83) rfl)) (hw _ (List.mem_of_getElem? (i := 31) rfl)) (by decide) (by decide)) (g := (mkF m 41 #[rv x, iv (2 : Int32), rv b1, iv (1 : Int32), iv (0 : Int32), .unset, .unset] [(.int c0)])) rfl (by rw [hml]; rfl) (argsL := [(.int c0)]) (rest := []) (lenOf pd__C_I rfl) rfl (by show 2 * 0 + _ ≤ _; exact Nat.le_of_eq rfl) (hb hby d6_41) rfl eq8 (by decide) (by decide) (c' := 1) (s' := 2) rfl rfl
  obtain ⟨rfl, Nq9, eq9⟩ := hQ9
  have N9 := Fr.app N8 Nq9
  refine own_st (T' := T9) (g' := (mkF m 44 #[rv x, iv (2 : Int32), rv b1, iv (1 : Int32), iv (0 : Int32), .unset, .unset] [(.int (own_val c0))])) st9 ?_
  clear st9
  refine own_st (T' := T9) (g' := (mkF m 46 #[rv x, iv (2 : Int32), rv b1, iv (1 : Int32), iv (0 : Int32), iv (own_val c0), .unset] [])) (fun _ k_ => XS.istore X9.here hx rfl (hb hby d6_44) rfl (l' := #[rv x, iv (2 : Int32), rv b1, iv (1 : Int32), iv (0 : Int32), iv (own_val c0), .unset]) rfl k_) ?_
  refine own_st (T' := T9) (g' := (mkF m 47 #[rv x, iv (2 : Int32), rv b1, iv (1 : Int32), iv (0 : Int32), iv (own_val c0), .unset] [(.ref x)])) (fun _ k_ => XS.aloadN X9.here hx rfl (hb hby d6_46) rfl rfl  k_) ?_
  refine own_st (T' := T9) (g' := (mkF m 48 #[rv x, iv (2 : Int32), rv b1, iv (1 : Int32), iv (0 : Int32), iv (own_val c0), .unset] [(.int (2 : Int32)), (.ref x)])) (fun _ k_ => XS.iconst X9.here hx rfl (hb hby d6_47) k_) ?_
  refine own_st (T' := T9) (g' := (mkF m 50 #[rv x, iv (2 : Int32), rv b1, iv (1 : Int32), iv (0 : Int32), iv (own_val c0), .unset] [(.int (0 : Int32)), (.int (2 : Int32)), (.ref x)])) (fun _ k_ => XS.iload X9.here hx rfl (hb hby d6_48) rfl  k_) ?_
  refine own_st (T' := T9) (g' := (mkF m 51 #[rv x, iv (2 : Int32), rv b1, iv (1 : Int32), iv (0 : Int32), iv (own_val c0), .unset] [(.int (0 : Int32)), (.ref x)])) (fun _ k_ => XS.imul X9.here hx rfl (hb hby d6_50) rfl k_) ?_
  refine own_st (T' := T9) (g' := (mkF m 52 #[rv x, iv (2 : Int32), rv b1, iv (1 : Int32), iv (0 : Int32), iv (own_val c0), .unset] [(.int (1 : Int32)), (.int (0 : Int32)), (.ref x)])) (fun _ k_ => XS.iconst X9.here hx rfl (hb hby d6_51) k_) ?_
  refine own_st (T' := T9) (g' := (mkF m 53 #[rv x, iv (2 : Int32), rv b1, iv (1 : Int32), iv (0 : Int32), iv (own_val c0), .unset] [(.int (1 : Int32)), (.ref x)])) (fun _ k_ => XS.iadd X9.here hx rfl (hb hby d6_52) rfl k_) ?_
  obtain ⟨cq10, kq10, q10a, q10b, q10c⟩ := isOf hZ eq9 f3
  obtain ⟨v10, T10, L10, X10, ⟨hv10, rfl, eq10⟩, st10⟩ := own_callV X9 hx (y := own_m5) (z := own_m5) hown (mvT hZ (hw _ (List.mem_of_getElem? (i := 80) rfl))) (mvT hZ (hw _ (List.mem_of_getElem? (i := 59) rfl))) (notFace_of_selects (args := #[]) (mvT hZ (hw _ (List.mem_of_getElem? (i := 61) rfl)))) (mvT hZ (hw _ (List.mem_of_getElem? (i := 61) rfl))) (mvT hZ (hw _ (List.mem_of_getElem? (i := 60) rfl))) (by decide) (rm := ({ frames := 0, cells := 0, slots := 0, locals := 0 } : Room)) (Q := fun v h' L => v = some (.int (List.getD ([c0, c1, c2, c3] : List Int32) 1 0)) ∧ L = [] ∧ h' = h1) (StrChars.Road.chN (W := 0) hZ (own_wCh hw) (kI := 4) (hw _ (List.mem_of_getElem? (i := 8) rfl)) f3 f4 f5 f6 (StrChars.Road.codOf (cs := ([c0, c1, c2, c3] : List Int32)) (n := List.length ([c0, c1, c2, c3] : List Int32)) rfl (fun c hc => ((own_cR4 c0 c1 c2 c3 hr0 hr1 hr2 hr3) c hc).2)) (own_up _ (own_cR4 c0 c1 c2 c3 hr0 hr1 hr2 hr3)) (SC.ext f2.2) hcz (SF.ext f2.2) hfm (Nat.le_of_ble_eq_true rfl) (i := 1) (Nat.le_of_ble_eq_true rfl) (j := (1 : Int32)) rfl (by decide) (by decide)) q10a q10c (g := (mkF m 53 #[rv x, iv (2 : Int32), rv b1, iv (1 : Int32), iv (0 : Int32), iv (own_val c0), .unset] [(.int (1 : Int32)), (.ref x)])) rfl (by rw [hml]; rfl) (argsL := [(.int (1 : Int32))]) (rest := []) (lenOf pd__I_C rfl) rfl (by show 2 * 0 + _ ≤ _; exact Nat.le_of_eq rfl) (hb hby d6_53) rfl eq9 (by decide) (by decide) (c' := 1) (s' := 2) rfl rfl
  clear q10a q10b q10c kq10 cq10
  have N10 := Fr.app N9 (Fr.nil n0)
  obtain rfl : v10 = some (.int c1) := hv10.trans (congrArg (fun z => some (Value.int z)) rfl)
  refine own_st (T' := T10) (g' := (mkF m 56 #[rv x, iv (2 : Int32), rv b1, iv (1 : Int32), iv (0 : Int32), iv (own_val c0), .unset] [(.int c1)])) st10 ?_
  clear st10
  obtain ⟨_, T11, L11, X11, hQ11, st11⟩ := own_callS X10 hx (y := own_m8) hown (mvT hZ (hw _ (List.mem_of_getElem? (i := 81) rfl))) (mvT hZ (hw _ (List.mem_of_getElem? (i := 82) rfl))) (mvT hZ (hw _ (List.mem_of_getElem? (i := 31) rfl))) (mvT hZ (hw _ (List.mem_of_getElem? (i := 83) rfl))) (by decide) (backOf (W := 0) (rm_hexv l Z a0 hw [] c1 hv_ clV h1 n0 f2 SV HV hr1) hZ (hw _ (List.mem_of_getElem? (i := 83) rfl)) (hw _ (List.mem_of_getElem? (i := 31) rfl)) (by decide) (by decide)) (g := (mkF m 56 #[rv x, iv (2 : Int32), rv b1, iv (1 : Int32), iv (0 : Int32), iv (own_val c0), .unset] [(.int c1)])) rfl (by rw [hml]; rfl) (argsL := [(.int c1)]) (rest := []) (lenOf pd__C_I rfl) rfl (by show 2 * 0 + _ ≤ _; exact Nat.le_of_eq rfl) (hb hby d6_56) rfl eq10 (by decide) (by decide) (c' := 1) (s' := 2) rfl rfl
  obtain ⟨rfl, Nq11, eq11⟩ := hQ11
  have N11 := Fr.app N10 Nq11
  refine own_st (T' := T11) (g' := (mkF m 59 #[rv x, iv (2 : Int32), rv b1, iv (1 : Int32), iv (0 : Int32), iv (own_val c0), .unset] [(.int (own_val c1))])) st11 ?_
  clear st11
  refine own_st (T' := T11) (g' := (mkF m 61 #[rv x, iv (2 : Int32), rv b1, iv (1 : Int32), iv (0 : Int32), iv (own_val c0), iv (own_val c1)] [])) (fun _ k_ => XS.istore X11.here hx rfl (hb hby d6_59) rfl (l' := #[rv x, iv (2 : Int32), rv b1, iv (1 : Int32), iv (0 : Int32), iv (own_val c0), iv (own_val c1)]) rfl k_) ?_
  refine own_st (T' := T11) (g' := (mkF m 63 #[rv x, iv (2 : Int32), rv b1, iv (1 : Int32), iv (0 : Int32), iv (own_val c0), iv (own_val c1)] [(.int (own_val c0))])) (fun _ k_ => XS.iload X11.here hx rfl (hb hby d6_61) rfl  k_) ?_
  refine own_st (T' := T11) (g' := (mkF m 65 #[rv x, iv (2 : Int32), rv b1, iv (1 : Int32), iv (0 : Int32), iv (own_val c0), iv (own_val c1)] [(.int (own_val c1)), (.int (own_val c0))])) (fun _ k_ => XS.iload X11.here hx rfl (hb hby d6_63) rfl  k_) ?_
  refine own_st (T' := T11) (g' := (mkF m 66 #[rv x, iv (2 : Int32), rv b1, iv (1 : Int32), iv (0 : Int32), iv (own_val c0), iv (own_val c1)] [(.int ((own_val c0) ||| (own_val c1)))])) (fun _ k_ => XS.ior X11.here hx rfl (hb hby d6_65) rfl k_) ?_
  by_cases hc12 : ((own_val c0) ||| (own_val c1)) < (0 : Int32)
  · refine own_st (T' := T11) (g' := (mkF m 73 #[rv x, iv (2 : Int32), rv b1, iv (1 : Int32), iv (0 : Int32), iv (own_val c0), iv (own_val c1)] [])) (fun _ k_ => XS.ifYes X11.here hx rfl (pc0 := 66) (pc' := 73) rfl (hb hby d6_66) rfl ((if0 _ _).trans (tlt hc12).1) (by decide) (by decide) k_) ?_
    refine own_st (T' := T11) (g' := (mkF m 74 #[rv x, iv (2 : Int32), rv b1, iv (1 : Int32), iv (0 : Int32), iv (own_val c0), iv (own_val c1)] [(.int (0 : Int32))])) (fun _ k_ => XS.iconst X11.here hx rfl (hb hby d6_73) k_) ?_
    refine own_st (T' := T11) (g' := (mkF m 75 #[rv x, iv (2 : Int32), rv b1, iv (0 : Int32), iv (0 : Int32), iv (own_val c0), iv (own_val c1)] [])) (fun _ k_ => XS.istoreN X11.here hx rfl (hb hby d6_74) rfl (l' := #[rv x, iv (2 : Int32), rv b1, iv (0 : Int32), iv (0 : Int32), iv (own_val c0), iv (own_val c1)]) rfl k_) ?_
    refine own_st (T' := T11) (g' := (mkF m 76 #[rv x, iv (2 : Int32), rv b1, iv (0 : Int32), iv (0 : Int32), iv (own_val c0), iv (own_val c1)] [(.ref b1)])) (fun _ k_ => XS.aloadN X11.here hx rfl (hb hby d6_75) rfl rfl  k_) ?_
    refine own_st (T' := T11) (g' := (mkF m 78 #[rv x, iv (2 : Int32), rv b1, iv (0 : Int32), iv (0 : Int32), iv (own_val c0), iv (own_val c1)] [(.int (0 : Int32)), (.ref b1)])) (fun _ k_ => XS.iload X11.here hx rfl (hb hby d6_76) rfl  k_) ?_
    refine own_st (T' := T11) (g' := (mkF m 80 #[rv x, iv (2 : Int32), rv b1, iv (0 : Int32), iv (0 : Int32), iv (own_val c0), iv (own_val c1)] [(.int (own_val c0)), (.int (0 : Int32)), (.ref b1)])) (fun _ k_ => XS.iload X11.here hx rfl (hb hby d6_78) rfl  k_) ?_
    refine own_st (T' := T11) (g' := (mkF m 81 #[rv x, iv (2 : Int32), rv b1, iv (0 : Int32), iv (0 : Int32), iv (own_val c0), iv (own_val c1)] [(.int (4 : Int32)), (.int (own_val c0)), (.int (0 : Int32)), (.ref b1)])) (fun _ k_ => XS.iconst X11.here hx rfl (hb hby d6_80) k_) ?_
    refine own_st (T' := T11) (g' := (mkF m 82 #[rv x, iv (2 : Int32), rv b1, iv (0 : Int32), iv (0 : Int32), iv (own_val c0), iv (own_val c1)] [(.int ((own_val c0) <<< ((4 : Int32) &&& 31))), (.int (0 : Int32)), (.ref b1)])) (fun _ k_ => XS.ishl X11.here hx rfl (hb hby d6_81) rfl k_) ?_
    refine own_st (T' := T11) (g' := (mkF m 84 #[rv x, iv (2 : Int32), rv b1, iv (0 : Int32), iv (0 : Int32), iv (own_val c0), iv (own_val c1)] [(.int (own_val c1)), (.int ((own_val c0) <<< ((4 : Int32) &&& 31))), (.int (0 : Int32)), (.ref b1)])) (fun _ k_ => XS.iload X11.here hx rfl (hb hby d6_82) rfl  k_) ?_
    refine own_st (T' := T11) (g' := (mkF m 85 #[rv x, iv (2 : Int32), rv b1, iv (0 : Int32), iv (0 : Int32), iv (own_val c0), iv (own_val c1)] [(.int (((own_val c0) <<< ((4 : Int32) &&& 31)) ||| (own_val c1))), (.int (0 : Int32)), (.ref b1)])) (fun _ k_ => XS.ior X11.here hx rfl (hb hby d6_84) rfl k_) ?_
    refine own_st (T' := T11) (g' := (mkF m 86 #[rv x, iv (2 : Int32), rv b1, iv (0 : Int32), iv (0 : Int32), iv (own_val c0), iv (own_val c1)] [(.int ((((own_val c0) <<< ((4 : Int32) &&& 31)) ||| (own_val c1)).toInt8.toInt32)), (.int (0 : Int32)), (.ref b1)])) (fun _ k_ => XS.i2b X11.here hx rfl (hb hby d6_85) rfl k_) ?_
    obtain ⟨cl13, Ar13, q13, S13, N13, H13, G13⟩ := id V1
    have hin13 : ¬ ((0 : Int32) < 0 ∨ cl13.slots.size ≤ ((0 : Int32)).toNatClampNeg) := inb_of S13 ⟨by decide, by decide⟩
    obtain ⟨T14, h14, X14, e14, W14, st14⟩ := stB X11 hx hZ eq11 Ar13 (j := (0 : Int32)) hin13 (g := (mkF m 86 #[rv x, iv (2 : Int32), rv b1, iv (0 : Int32), iv (0 : Int32), iv (own_val c0), iv (own_val c1)] [(.int ((((own_val c0) <<< ((4 : Int32) &&& 31)) ||| (own_val c1)).toInt8.toInt32)), (.int (0 : Int32)), (.ref b1)])) rfl rfl (hb hby d6_86)
    have V14 : Arv Z h14 b1 k1 .byte (2 : Int32) [(.int (nar .byte ((((own_val c0) <<< ((4 : Int32) &&& 31)) ||| (own_val c1)).toInt8.toInt32))), (.int (0 : Int32))] (.int (0 : Int32)) := Arv.set Ar13 q13 S13 N13 H13 G13 (fits_nar_byte _) W14 0 rfl (Nat.le_of_ble_eq_true rfl)
    have Vn14 : Arv Z h14 b1 k1 .byte (2 : Int32) [(.int ((((own_val c0) <<< ((4 : Int32) &&& 31)) ||| (own_val c1)).toInt8.toInt32)), (.int (0 : Int32))] (.int (0 : Int32)) := by simpa only [own_bb] using V14
    have Nx14 := Fr.snoc X14 N11 fr1
    refine own_st (T' := T14) (g' := (mkF m 87 #[rv x, iv (2 : Int32), rv b1, iv (0 : Int32), iv (0 : Int32), iv (own_val c0), iv (own_val c1)] [])) st14 ?_
    clear hin13 G13 H13 N13 S13 q13 Ar13 cl13 st14
    refine own_st (T' := T14) (g' := (mkF m 90 #[rv x, iv (2 : Int32), rv b1, iv (0 : Int32), iv (1 : Int32), iv (own_val c0), iv (own_val c1)] [])) (fun _ k_ => XS.iinc X14.here hx rfl (hb hby d6_87) rfl (l' := #[rv x, iv (2 : Int32), rv b1, iv (0 : Int32), iv (1 : Int32), iv (own_val c0), iv (own_val c1)]) rfl k_) ?_
    refine own_st (T' := T14) (g' := (mkF m 23 #[rv x, iv (2 : Int32), rv b1, iv (0 : Int32), iv (1 : Int32), iv (own_val c0), iv (own_val c1)] [])) (fun _ k_ => XS.goto X14.here hx rfl (pc0 := 90) (pc' := 23) rfl (hb hby d6_90) (by decide) (by decide) k_) ?_
    refine own_st (T' := T14) (g' := (mkF m 25 #[rv x, iv (2 : Int32), rv b1, iv (0 : Int32), iv (1 : Int32), iv (own_val c0), iv (own_val c1)] [(.int (1 : Int32))])) (fun _ k_ => XS.iload X14.here hx rfl (hb hby d6_23) rfl  k_) ?_
    refine own_st (T' := T14) (g' := (mkF m 26 #[rv x, iv (2 : Int32), rv b1, iv (0 : Int32), iv (1 : Int32), iv (own_val c0), iv (own_val c1)] [(.int (2 : Int32)), (.int (1 : Int32))])) (fun _ k_ => XS.iloadN X14.here hx rfl (hb hby d6_25) rfl  k_) ?_
    refine own_st (T' := T14) (g' := (mkF m 29 #[rv x, iv (2 : Int32), rv b1, iv (0 : Int32), iv (1 : Int32), iv (own_val c0), iv (own_val c1)] [])) (fun _ k_ => XS.icmpNo X14.here hx rfl (hb hby d6_26) rfl (tlt (by decide : (1 : Int32) < (2 : Int32))).2.1 k_) ?_
    refine own_st (T' := T14) (g' := (mkF m 30 #[rv x, iv (2 : Int32), rv b1, iv (0 : Int32), iv (1 : Int32), iv (own_val c0), iv (own_val c1)] [(.int (0 : Int32))])) (fun _ k_ => XS.iloadN X14.here hx rfl (hb hby d6_29) rfl  k_) ?_
    refine own_st (T' := T14) (g' := (mkF m 93 #[rv x, iv (2 : Int32), rv b1, iv (0 : Int32), iv (1 : Int32), iv (own_val c0), iv (own_val c1)] [])) (fun _ k_ => XS.ifYes X14.here hx rfl (pc0 := 30) (pc' := 93) rfl (hb hby d6_30) rfl ((if0 _ _).trans (teq (rfl : (0 : Int32) = (0 : Int32))).1) (by decide) (by decide) k_) ?_
    refine own_st (T' := T14) (g' := (mkF m 94 #[rv x, iv (2 : Int32), rv b1, iv (0 : Int32), iv (1 : Int32), iv (own_val c0), iv (own_val c1)] [(.int (0 : Int32))])) (fun _ k_ => XS.iloadN X14.here hx rfl (hb hby d6_93) rfl  k_) ?_
    refine own_st (T' := T14) (g' := (mkF m 101 #[rv x, iv (2 : Int32), rv b1, iv (0 : Int32), iv (1 : Int32), iv (own_val c0), iv (own_val c1)] [])) (fun _ k_ => XS.ifYes X14.here hx rfl (pc0 := 94) (pc' := 101) rfl (hb hby d6_94) rfl ((if0 _ _).trans (teq (rfl : (0 : Int32) = (0 : Int32))).1) (by decide) (by decide) k_) ?_
    refine own_st (T' := T14) (g' := (mkF m 102 #[rv x, iv (2 : Int32), rv b1, iv (0 : Int32), iv (1 : Int32), iv (own_val c0), iv (own_val c1)] [.null])) (fun _ k_ => XS.aconstNull X14.here hx rfl (hb hby d6_101) k_) ?_
    have f15 : Keep h0 h1 [] := (Keep.refl h0 []).ext E1
    have f16 : Keep h0 h14 [] := f15.wr W14 (Or.inr sz1)
    exact own_retA X14 hx hret rfl rfl hlk (hb hby d6_102) (by decide) (by decide) (by rw [e14]; exact ⟨.null, b1, k1, rfl, Nx14, f16, fun _ => rfl, fun q => absurd (Or.inl hc12) q⟩)
  · refine own_st (T' := T11) (g' := (mkF m 69 #[rv x, iv (2 : Int32), rv b1, iv (1 : Int32), iv (0 : Int32), iv (own_val c0), iv (own_val c1)] [])) (fun _ k_ => XS.ifNo X11.here hx rfl (hb hby d6_66) rfl ((if0 _ _).trans (flt hc12).1) k_) ?_
    refine own_st (T' := T11) (g' := (mkF m 70 #[rv x, iv (2 : Int32), rv b1, iv (1 : Int32), iv (0 : Int32), iv (own_val c0), iv (own_val c1)] [(.int (1 : Int32))])) (fun _ k_ => XS.iconst X11.here hx rfl (hb hby d6_69) k_) ?_
    refine own_st (T' := T11) (g' := (mkF m 74 #[rv x, iv (2 : Int32), rv b1, iv (1 : Int32), iv (0 : Int32), iv (own_val c0), iv (own_val c1)] [(.int (1 : Int32))])) (fun _ k_ => XS.goto X11.here hx rfl (pc0 := 70) (pc' := 74) rfl (hb hby d6_70) (by decide) (by decide) k_) ?_
    refine own_st (T' := T11) (g' := (mkF m 75 #[rv x, iv (2 : Int32), rv b1, iv (1 : Int32), iv (0 : Int32), iv (own_val c0), iv (own_val c1)] [])) (fun _ k_ => XS.istoreN X11.here hx rfl (hb hby d6_74) rfl (l' := #[rv x, iv (2 : Int32), rv b1, iv (1 : Int32), iv (0 : Int32), iv (own_val c0), iv (own_val c1)]) rfl k_) ?_
    refine own_st (T' := T11) (g' := (mkF m 76 #[rv x, iv (2 : Int32), rv b1, iv (1 : Int32), iv (0 : Int32), iv (own_val c0), iv (own_val c1)] [(.ref b1)])) (fun _ k_ => XS.aloadN X11.here hx rfl (hb hby d6_75) rfl rfl  k_) ?_
    refine own_st (T' := T11) (g' := (mkF m 78 #[rv x, iv (2 : Int32), rv b1, iv (1 : Int32), iv (0 : Int32), iv (own_val c0), iv (own_val c1)] [(.int (0 : Int32)), (.ref b1)])) (fun _ k_ => XS.iload X11.here hx rfl (hb hby d6_76) rfl  k_) ?_
    refine own_st (T' := T11) (g' := (mkF m 80 #[rv x, iv (2 : Int32), rv b1, iv (1 : Int32), iv (0 : Int32), iv (own_val c0), iv (own_val c1)] [(.int (own_val c0)), (.int (0 : Int32)), (.ref b1)])) (fun _ k_ => XS.iload X11.here hx rfl (hb hby d6_78) rfl  k_) ?_
    refine own_st (T' := T11) (g' := (mkF m 81 #[rv x, iv (2 : Int32), rv b1, iv (1 : Int32), iv (0 : Int32), iv (own_val c0), iv (own_val c1)] [(.int (4 : Int32)), (.int (own_val c0)), (.int (0 : Int32)), (.ref b1)])) (fun _ k_ => XS.iconst X11.here hx rfl (hb hby d6_80) k_) ?_
    refine own_st (T' := T11) (g' := (mkF m 82 #[rv x, iv (2 : Int32), rv b1, iv (1 : Int32), iv (0 : Int32), iv (own_val c0), iv (own_val c1)] [(.int ((own_val c0) <<< ((4 : Int32) &&& 31))), (.int (0 : Int32)), (.ref b1)])) (fun _ k_ => XS.ishl X11.here hx rfl (hb hby d6_81) rfl k_) ?_
    refine own_st (T' := T11) (g' := (mkF m 84 #[rv x, iv (2 : Int32), rv b1, iv (1 : Int32), iv (0 : Int32), iv (own_val c0), iv (own_val c1)] [(.int (own_val c1)), (.int ((own_val c0) <<< ((4 : Int32) &&& 31))), (.int (0 : Int32)), (.ref b1)])) (fun _ k_ => XS.iload X11.here hx rfl (hb hby d6_82) rfl  k_) ?_
    refine own_st (T' := T11) (g' := (mkF m 85 #[rv x, iv (2 : Int32), rv b1, iv (1 : Int32), iv (0 : Int32), iv (own_val c0), iv (own_val c1)] [(.int (((own_val c0) <<< ((4 : Int32) &&& 31)) ||| (own_val c1))), (.int (0 : Int32)), (.ref b1)])) (fun _ k_ => XS.ior X11.here hx rfl (hb hby d6_84) rfl k_) ?_
    refine own_st (T' := T11) (g' := (mkF m 86 #[rv x, iv (2 : Int32), rv b1, iv (1 : Int32), iv (0 : Int32), iv (own_val c0), iv (own_val c1)] [(.int ((((own_val c0) <<< ((4 : Int32) &&& 31)) ||| (own_val c1)).toInt8.toInt32)), (.int (0 : Int32)), (.ref b1)])) (fun _ k_ => XS.i2b X11.here hx rfl (hb hby d6_85) rfl k_) ?_
    obtain ⟨cl17, Ar17, q17, S17, N17, H17, G17⟩ := id V1
    have hin17 : ¬ ((0 : Int32) < 0 ∨ cl17.slots.size ≤ ((0 : Int32)).toNatClampNeg) := inb_of S17 ⟨by decide, by decide⟩
    obtain ⟨T18, h18, X18, e18, W18, st18⟩ := stB X11 hx hZ eq11 Ar17 (j := (0 : Int32)) hin17 (g := (mkF m 86 #[rv x, iv (2 : Int32), rv b1, iv (1 : Int32), iv (0 : Int32), iv (own_val c0), iv (own_val c1)] [(.int ((((own_val c0) <<< ((4 : Int32) &&& 31)) ||| (own_val c1)).toInt8.toInt32)), (.int (0 : Int32)), (.ref b1)])) rfl rfl (hb hby d6_86)
    have V18 : Arv Z h18 b1 k1 .byte (2 : Int32) [(.int (nar .byte ((((own_val c0) <<< ((4 : Int32) &&& 31)) ||| (own_val c1)).toInt8.toInt32))), (.int (0 : Int32))] (.int (0 : Int32)) := Arv.set Ar17 q17 S17 N17 H17 G17 (fits_nar_byte _) W18 0 rfl (Nat.le_of_ble_eq_true rfl)
    have Vn18 : Arv Z h18 b1 k1 .byte (2 : Int32) [(.int ((((own_val c0) <<< ((4 : Int32) &&& 31)) ||| (own_val c1)).toInt8.toInt32)), (.int (0 : Int32))] (.int (0 : Int32)) := by simpa only [own_bb] using V18
    have Nx18 := Fr.snoc X18 N11 fr1
    refine own_st (T' := T18) (g' := (mkF m 87 #[rv x, iv (2 : Int32), rv b1, iv (1 : Int32), iv (0 : Int32), iv (own_val c0), iv (own_val c1)] [])) st18 ?_
    clear hin17 G17 H17 N17 S17 q17 Ar17 cl17 st18
    refine own_st (T' := T18) (g' := (mkF m 90 #[rv x, iv (2 : Int32), rv b1, iv (1 : Int32), iv (1 : Int32), iv (own_val c0), iv (own_val c1)] [])) (fun _ k_ => XS.iinc X18.here hx rfl (hb hby d6_87) rfl (l' := #[rv x, iv (2 : Int32), rv b1, iv (1 : Int32), iv (1 : Int32), iv (own_val c0), iv (own_val c1)]) rfl k_) ?_
    refine own_st (T' := T18) (g' := (mkF m 23 #[rv x, iv (2 : Int32), rv b1, iv (1 : Int32), iv (1 : Int32), iv (own_val c0), iv (own_val c1)] [])) (fun _ k_ => XS.goto X18.here hx rfl (pc0 := 90) (pc' := 23) rfl (hb hby d6_90) (by decide) (by decide) k_) ?_
    refine own_st (T' := T18) (g' := (mkF m 25 #[rv x, iv (2 : Int32), rv b1, iv (1 : Int32), iv (1 : Int32), iv (own_val c0), iv (own_val c1)] [(.int (1 : Int32))])) (fun _ k_ => XS.iload X18.here hx rfl (hb hby d6_23) rfl  k_) ?_
    refine own_st (T' := T18) (g' := (mkF m 26 #[rv x, iv (2 : Int32), rv b1, iv (1 : Int32), iv (1 : Int32), iv (own_val c0), iv (own_val c1)] [(.int (2 : Int32)), (.int (1 : Int32))])) (fun _ k_ => XS.iloadN X18.here hx rfl (hb hby d6_25) rfl  k_) ?_
    refine own_st (T' := T18) (g' := (mkF m 29 #[rv x, iv (2 : Int32), rv b1, iv (1 : Int32), iv (1 : Int32), iv (own_val c0), iv (own_val c1)] [])) (fun _ k_ => XS.icmpNo X18.here hx rfl (hb hby d6_26) rfl (tlt (by decide : (1 : Int32) < (2 : Int32))).2.1 k_) ?_
    refine own_st (T' := T18) (g' := (mkF m 30 #[rv x, iv (2 : Int32), rv b1, iv (1 : Int32), iv (1 : Int32), iv (own_val c0), iv (own_val c1)] [(.int (1 : Int32))])) (fun _ k_ => XS.iloadN X18.here hx rfl (hb hby d6_29) rfl  k_) ?_
    refine own_st (T' := T18) (g' := (mkF m 33 #[rv x, iv (2 : Int32), rv b1, iv (1 : Int32), iv (1 : Int32), iv (own_val c0), iv (own_val c1)] [])) (fun _ k_ => XS.ifNo X18.here hx rfl (hb hby d6_30) rfl ((if0 _ _).trans (feq (by decide : ¬ ((1 : Int32) = (0 : Int32)))).1) k_) ?_
    refine own_st (T' := T18) (g' := (mkF m 34 #[rv x, iv (2 : Int32), rv b1, iv (1 : Int32), iv (1 : Int32), iv (own_val c0), iv (own_val c1)] [(.ref x)])) (fun _ k_ => XS.aloadN X18.here hx rfl (hb hby d6_33) rfl rfl  k_) ?_
    refine own_st (T' := T18) (g' := (mkF m 35 #[rv x, iv (2 : Int32), rv b1, iv (1 : Int32), iv (1 : Int32), iv (own_val c0), iv (own_val c1)] [(.int (2 : Int32)), (.ref x)])) (fun _ k_ => XS.iconst X18.here hx rfl (hb hby d6_34) k_) ?_
    refine own_st (T' := T18) (g' := (mkF m 37 #[rv x, iv (2 : Int32), rv b1, iv (1 : Int32), iv (1 : Int32), iv (own_val c0), iv (own_val c1)] [(.int (1 : Int32)), (.int (2 : Int32)), (.ref x)])) (fun _ k_ => XS.iload X18.here hx rfl (hb hby d6_35) rfl  k_) ?_
    refine own_st (T' := T18) (g' := (mkF m 38 #[rv x, iv (2 : Int32), rv b1, iv (1 : Int32), iv (1 : Int32), iv (own_val c0), iv (own_val c1)] [(.int (2 : Int32)), (.ref x)])) (fun _ k_ => XS.imul X18.here hx rfl (hb hby d6_37) rfl k_) ?_
    have f19 : Old Z n0 h18 := f2.wr W18 fr1
    have f20 : Exa Z h18 x "java/lang/String" := f3.wr W18
    have ne21 : x ≠ b1 := Nat.ne_of_lt (Nat.lt_of_lt_of_le E_x.lt (Nat.le_of_eq g1.symm))
    have f22 : Fld Z h18 x "java/lang/String" "value" "[B" (.ref t) := f4.other W18 (Or.inl ne21)
    have f23 : Fld Z h18 x "java/lang/String" "coder" "B" (.int (0 : Int32)) := f5.other W18 (Or.inl ne21)
    have ne24 : t ≠ b1 := Nat.ne_of_lt (Nat.lt_of_lt_of_le A_x.lt (Nat.le_of_eq g1.symm))
    have f25 : Arv Z h18 t kt .byte (4 : Int32) [(.int (c0.toInt8.toInt32)), (.int (c1.toInt8.toInt32)), (.int (c2.toInt8.toInt32)), (.int (c3.toInt8.toInt32))] (.int (0 : Int32)) := f6.other W18 ne24
    obtain ⟨cq26, kq26, q26a, q26b, q26c⟩ := isOf hZ e18 f20
    obtain ⟨v26, T26, L26, X26, ⟨hv26, rfl, eq26⟩, st26⟩ := own_callV X18 hx (y := own_m5) (z := own_m5) hown (mvT hZ (hw _ (List.mem_of_getElem? (i := 80) rfl))) (mvT hZ (hw _ (List.mem_of_getElem? (i := 59) rfl))) (notFace_of_selects (args := #[]) (mvT hZ (hw _ (List.mem_of_getElem? (i := 61) rfl)))) (mvT hZ (hw _ (List.mem_of_getElem? (i := 61) rfl))) (mvT hZ (hw _ (List.mem_of_getElem? (i := 60) rfl))) (by decide) (rm := ({ frames := 0, cells := 0, slots := 0, locals := 0 } : Room)) (Q := fun v h' L => v = some (.int (List.getD ([c0, c1, c2, c3] : List Int32) 2 0)) ∧ L = [] ∧ h' = h18) (StrChars.Road.chN (W := 0) hZ (own_wCh hw) (kI := 4) (hw _ (List.mem_of_getElem? (i := 8) rfl)) f20 f22 f23 f25 (StrChars.Road.codOf (cs := ([c0, c1, c2, c3] : List Int32)) (n := List.length ([c0, c1, c2, c3] : List Int32)) rfl (fun c hc => ((own_cR4 c0 c1 c2 c3 hr0 hr1 hr2 hr3) c hc).2)) (own_up _ (own_cR4 c0 c1 c2 c3 hr0 hr1 hr2 hr3)) (SC.ext f19.2) hcz (SF.ext f19.2) hfm (Nat.le_of_ble_eq_true rfl) (i := 2) (Nat.le_of_ble_eq_true rfl) (j := (2 : Int32)) rfl (by decide) (by decide)) q26a q26c (g := (mkF m 38 #[rv x, iv (2 : Int32), rv b1, iv (1 : Int32), iv (1 : Int32), iv (own_val c0), iv (own_val c1)] [(.int (2 : Int32)), (.ref x)])) rfl (by rw [hml]; rfl) (argsL := [(.int (2 : Int32))]) (rest := []) (lenOf pd__I_C rfl) rfl (by show 2 * 0 + _ ≤ _; exact Nat.le_of_eq rfl) (hb hby d6_38) rfl e18 (by decide) (by decide) (c' := 1) (s' := 2) rfl rfl
    clear q26a q26b q26c kq26 cq26
    have N26 := Fr.app Nx18 (Fr.nil n0)
    obtain rfl : v26 = some (.int c2) := hv26.trans (congrArg (fun z => some (Value.int z)) rfl)
    refine own_st (T' := T26) (g' := (mkF m 41 #[rv x, iv (2 : Int32), rv b1, iv (1 : Int32), iv (1 : Int32), iv (own_val c0), iv (own_val c1)] [(.int c2)])) st26 ?_
    clear st26
    obtain ⟨_, T27, L27, X27, hQ27, st27⟩ := own_callS X26 hx (y := own_m8) hown (mvT hZ (hw _ (List.mem_of_getElem? (i := 81) rfl))) (mvT hZ (hw _ (List.mem_of_getElem? (i := 82) rfl))) (mvT hZ (hw _ (List.mem_of_getElem? (i := 31) rfl))) (mvT hZ (hw _ (List.mem_of_getElem? (i := 83) rfl))) (by decide) (backOf (W := 0) (rm_hexv l Z a0 hw [] c2 hv_ clV h18 n0 f19 SV HV hr2) hZ (hw _ (List.mem_of_getElem? (i := 83) rfl)) (hw _ (List.mem_of_getElem? (i := 31) rfl)) (by decide) (by decide)) (g := (mkF m 41 #[rv x, iv (2 : Int32), rv b1, iv (1 : Int32), iv (1 : Int32), iv (own_val c0), iv (own_val c1)] [(.int c2)])) rfl (by rw [hml]; rfl) (argsL := [(.int c2)]) (rest := []) (lenOf pd__C_I rfl) rfl (by show 2 * 0 + _ ≤ _; exact Nat.le_of_eq rfl) (hb hby d6_41) rfl eq26 (by decide) (by decide) (c' := 1) (s' := 2) rfl rfl
    obtain ⟨rfl, Nq27, eq27⟩ := hQ27
    have N27 := Fr.app N26 Nq27
    refine own_st (T' := T27) (g' := (mkF m 44 #[rv x, iv (2 : Int32), rv b1, iv (1 : Int32), iv (1 : Int32), iv (own_val c0), iv (own_val c1)] [(.int (own_val c2))])) st27 ?_
    clear st27
    refine own_st (T' := T27) (g' := (mkF m 46 #[rv x, iv (2 : Int32), rv b1, iv (1 : Int32), iv (1 : Int32), iv (own_val c2), iv (own_val c1)] [])) (fun _ k_ => XS.istore X27.here hx rfl (hb hby d6_44) rfl (l' := #[rv x, iv (2 : Int32), rv b1, iv (1 : Int32), iv (1 : Int32), iv (own_val c2), iv (own_val c1)]) rfl k_) ?_
    refine own_st (T' := T27) (g' := (mkF m 47 #[rv x, iv (2 : Int32), rv b1, iv (1 : Int32), iv (1 : Int32), iv (own_val c2), iv (own_val c1)] [(.ref x)])) (fun _ k_ => XS.aloadN X27.here hx rfl (hb hby d6_46) rfl rfl  k_) ?_
    refine own_st (T' := T27) (g' := (mkF m 48 #[rv x, iv (2 : Int32), rv b1, iv (1 : Int32), iv (1 : Int32), iv (own_val c2), iv (own_val c1)] [(.int (2 : Int32)), (.ref x)])) (fun _ k_ => XS.iconst X27.here hx rfl (hb hby d6_47) k_) ?_
    refine own_st (T' := T27) (g' := (mkF m 50 #[rv x, iv (2 : Int32), rv b1, iv (1 : Int32), iv (1 : Int32), iv (own_val c2), iv (own_val c1)] [(.int (1 : Int32)), (.int (2 : Int32)), (.ref x)])) (fun _ k_ => XS.iload X27.here hx rfl (hb hby d6_48) rfl  k_) ?_
    refine own_st (T' := T27) (g' := (mkF m 51 #[rv x, iv (2 : Int32), rv b1, iv (1 : Int32), iv (1 : Int32), iv (own_val c2), iv (own_val c1)] [(.int (2 : Int32)), (.ref x)])) (fun _ k_ => XS.imul X27.here hx rfl (hb hby d6_50) rfl k_) ?_
    refine own_st (T' := T27) (g' := (mkF m 52 #[rv x, iv (2 : Int32), rv b1, iv (1 : Int32), iv (1 : Int32), iv (own_val c2), iv (own_val c1)] [(.int (1 : Int32)), (.int (2 : Int32)), (.ref x)])) (fun _ k_ => XS.iconst X27.here hx rfl (hb hby d6_51) k_) ?_
    refine own_st (T' := T27) (g' := (mkF m 53 #[rv x, iv (2 : Int32), rv b1, iv (1 : Int32), iv (1 : Int32), iv (own_val c2), iv (own_val c1)] [(.int (3 : Int32)), (.ref x)])) (fun _ k_ => XS.iadd X27.here hx rfl (hb hby d6_52) rfl k_) ?_
    obtain ⟨cq28, kq28, q28a, q28b, q28c⟩ := isOf hZ eq27 f20
    obtain ⟨v28, T28, L28, X28, ⟨hv28, rfl, eq28⟩, st28⟩ := own_callV X27 hx (y := own_m5) (z := own_m5) hown (mvT hZ (hw _ (List.mem_of_getElem? (i := 80) rfl))) (mvT hZ (hw _ (List.mem_of_getElem? (i := 59) rfl))) (notFace_of_selects (args := #[]) (mvT hZ (hw _ (List.mem_of_getElem? (i := 61) rfl)))) (mvT hZ (hw _ (List.mem_of_getElem? (i := 61) rfl))) (mvT hZ (hw _ (List.mem_of_getElem? (i := 60) rfl))) (by decide) (rm := ({ frames := 0, cells := 0, slots := 0, locals := 0 } : Room)) (Q := fun v h' L => v = some (.int (List.getD ([c0, c1, c2, c3] : List Int32) 3 0)) ∧ L = [] ∧ h' = h18) (StrChars.Road.chN (W := 0) hZ (own_wCh hw) (kI := 4) (hw _ (List.mem_of_getElem? (i := 8) rfl)) f20 f22 f23 f25 (StrChars.Road.codOf (cs := ([c0, c1, c2, c3] : List Int32)) (n := List.length ([c0, c1, c2, c3] : List Int32)) rfl (fun c hc => ((own_cR4 c0 c1 c2 c3 hr0 hr1 hr2 hr3) c hc).2)) (own_up _ (own_cR4 c0 c1 c2 c3 hr0 hr1 hr2 hr3)) (SC.ext f19.2) hcz (SF.ext f19.2) hfm (Nat.le_of_ble_eq_true rfl) (i := 3) (Nat.le_of_ble_eq_true rfl) (j := (3 : Int32)) rfl (by decide) (by decide)) q28a q28c (g := (mkF m 53 #[rv x, iv (2 : Int32), rv b1, iv (1 : Int32), iv (1 : Int32), iv (own_val c2), iv (own_val c1)] [(.int (3 : Int32)), (.ref x)])) rfl (by rw [hml]; rfl) (argsL := [(.int (3 : Int32))]) (rest := []) (lenOf pd__I_C rfl) rfl (by show 2 * 0 + _ ≤ _; exact Nat.le_of_eq rfl) (hb hby d6_53) rfl eq27 (by decide) (by decide) (c' := 1) (s' := 2) rfl rfl
    clear q28a q28b q28c kq28 cq28
    have N28 := Fr.app N27 (Fr.nil n0)
    obtain rfl : v28 = some (.int c3) := hv28.trans (congrArg (fun z => some (Value.int z)) rfl)
    refine own_st (T' := T28) (g' := (mkF m 56 #[rv x, iv (2 : Int32), rv b1, iv (1 : Int32), iv (1 : Int32), iv (own_val c2), iv (own_val c1)] [(.int c3)])) st28 ?_
    clear st28
    obtain ⟨_, T29, L29, X29, hQ29, st29⟩ := own_callS X28 hx (y := own_m8) hown (mvT hZ (hw _ (List.mem_of_getElem? (i := 81) rfl))) (mvT hZ (hw _ (List.mem_of_getElem? (i := 82) rfl))) (mvT hZ (hw _ (List.mem_of_getElem? (i := 31) rfl))) (mvT hZ (hw _ (List.mem_of_getElem? (i := 83) rfl))) (by decide) (backOf (W := 0) (rm_hexv l Z a0 hw [] c3 hv_ clV h18 n0 f19 SV HV hr3) hZ (hw _ (List.mem_of_getElem? (i := 83) rfl)) (hw _ (List.mem_of_getElem? (i := 31) rfl)) (by decide) (by decide)) (g := (mkF m 56 #[rv x, iv (2 : Int32), rv b1, iv (1 : Int32), iv (1 : Int32), iv (own_val c2), iv (own_val c1)] [(.int c3)])) rfl (by rw [hml]; rfl) (argsL := [(.int c3)]) (rest := []) (lenOf pd__C_I rfl) rfl (by show 2 * 0 + _ ≤ _; exact Nat.le_of_eq rfl) (hb hby d6_56) rfl eq28 (by decide) (by decide) (c' := 1) (s' := 2) rfl rfl
    obtain ⟨rfl, Nq29, eq29⟩ := hQ29
    have N29 := Fr.app N28 Nq29
    refine own_st (T' := T29) (g' := (mkF m 59 #[rv x, iv (2 : Int32), rv b1, iv (1 : Int32), iv (1 : Int32), iv (own_val c2), iv (own_val c1)] [(.int (own_val c3))])) st29 ?_
    clear st29
    refine own_st (T' := T29) (g' := (mkF m 61 #[rv x, iv (2 : Int32), rv b1, iv (1 : Int32), iv (1 : Int32), iv (own_val c2), iv (own_val c3)] [])) (fun _ k_ => XS.istore X29.here hx rfl (hb hby d6_59) rfl (l' := #[rv x, iv (2 : Int32), rv b1, iv (1 : Int32), iv (1 : Int32), iv (own_val c2), iv (own_val c3)]) rfl k_) ?_
    refine own_st (T' := T29) (g' := (mkF m 63 #[rv x, iv (2 : Int32), rv b1, iv (1 : Int32), iv (1 : Int32), iv (own_val c2), iv (own_val c3)] [(.int (own_val c2))])) (fun _ k_ => XS.iload X29.here hx rfl (hb hby d6_61) rfl  k_) ?_
    refine own_st (T' := T29) (g' := (mkF m 65 #[rv x, iv (2 : Int32), rv b1, iv (1 : Int32), iv (1 : Int32), iv (own_val c2), iv (own_val c3)] [(.int (own_val c3)), (.int (own_val c2))])) (fun _ k_ => XS.iload X29.here hx rfl (hb hby d6_63) rfl  k_) ?_
    refine own_st (T' := T29) (g' := (mkF m 66 #[rv x, iv (2 : Int32), rv b1, iv (1 : Int32), iv (1 : Int32), iv (own_val c2), iv (own_val c3)] [(.int ((own_val c2) ||| (own_val c3)))])) (fun _ k_ => XS.ior X29.here hx rfl (hb hby d6_65) rfl k_) ?_
    by_cases hc30 : ((own_val c2) ||| (own_val c3)) < (0 : Int32)
    · refine own_st (T' := T29) (g' := (mkF m 73 #[rv x, iv (2 : Int32), rv b1, iv (1 : Int32), iv (1 : Int32), iv (own_val c2), iv (own_val c3)] [])) (fun _ k_ => XS.ifYes X29.here hx rfl (pc0 := 66) (pc' := 73) rfl (hb hby d6_66) rfl ((if0 _ _).trans (tlt hc30).1) (by decide) (by decide) k_) ?_
      refine own_st (T' := T29) (g' := (mkF m 74 #[rv x, iv (2 : Int32), rv b1, iv (1 : Int32), iv (1 : Int32), iv (own_val c2), iv (own_val c3)] [(.int (0 : Int32))])) (fun _ k_ => XS.iconst X29.here hx rfl (hb hby d6_73) k_) ?_
      refine own_st (T' := T29) (g' := (mkF m 75 #[rv x, iv (2 : Int32), rv b1, iv (0 : Int32), iv (1 : Int32), iv (own_val c2), iv (own_val c3)] [])) (fun _ k_ => XS.istoreN X29.here hx rfl (hb hby d6_74) rfl (l' := #[rv x, iv (2 : Int32), rv b1, iv (0 : Int32), iv (1 : Int32), iv (own_val c2), iv (own_val c3)]) rfl k_) ?_
      refine own_st (T' := T29) (g' := (mkF m 76 #[rv x, iv (2 : Int32), rv b1, iv (0 : Int32), iv (1 : Int32), iv (own_val c2), iv (own_val c3)] [(.ref b1)])) (fun _ k_ => XS.aloadN X29.here hx rfl (hb hby d6_75) rfl rfl  k_) ?_
      refine own_st (T' := T29) (g' := (mkF m 78 #[rv x, iv (2 : Int32), rv b1, iv (0 : Int32), iv (1 : Int32), iv (own_val c2), iv (own_val c3)] [(.int (1 : Int32)), (.ref b1)])) (fun _ k_ => XS.iload X29.here hx rfl (hb hby d6_76) rfl  k_) ?_
      refine own_st (T' := T29) (g' := (mkF m 80 #[rv x, iv (2 : Int32), rv b1, iv (0 : Int32), iv (1 : Int32), iv (own_val c2), iv (own_val c3)] [(.int (own_val c2)), (.int (1 : Int32)), (.ref b1)])) (fun _ k_ => XS.iload X29.here hx rfl (hb hby d6_78) rfl  k_) ?_
      refine own_st (T' := T29) (g' := (mkF m 81 #[rv x, iv (2 : Int32), rv b1, iv (0 : Int32), iv (1 : Int32), iv (own_val c2), iv (own_val c3)] [(.int (4 : Int32)), (.int (own_val c2)), (.int (1 : Int32)), (.ref b1)])) (fun _ k_ => XS.iconst X29.here hx rfl (hb hby d6_80) k_) ?_
      refine own_st (T' := T29) (g' := (mkF m 82 #[rv x, iv (2 : Int32), rv b1, iv (0 : Int32), iv (1 : Int32), iv (own_val c2), iv (own_val c3)] [(.int ((own_val c2) <<< ((4 : Int32) &&& 31))), (.int (1 : Int32)), (.ref b1)])) (fun _ k_ => XS.ishl X29.here hx rfl (hb hby d6_81) rfl k_) ?_
      refine own_st (T' := T29) (g' := (mkF m 84 #[rv x, iv (2 : Int32), rv b1, iv (0 : Int32), iv (1 : Int32), iv (own_val c2), iv (own_val c3)] [(.int (own_val c3)), (.int ((own_val c2) <<< ((4 : Int32) &&& 31))), (.int (1 : Int32)), (.ref b1)])) (fun _ k_ => XS.iload X29.here hx rfl (hb hby d6_82) rfl  k_) ?_
      refine own_st (T' := T29) (g' := (mkF m 85 #[rv x, iv (2 : Int32), rv b1, iv (0 : Int32), iv (1 : Int32), iv (own_val c2), iv (own_val c3)] [(.int (((own_val c2) <<< ((4 : Int32) &&& 31)) ||| (own_val c3))), (.int (1 : Int32)), (.ref b1)])) (fun _ k_ => XS.ior X29.here hx rfl (hb hby d6_84) rfl k_) ?_
      refine own_st (T' := T29) (g' := (mkF m 86 #[rv x, iv (2 : Int32), rv b1, iv (0 : Int32), iv (1 : Int32), iv (own_val c2), iv (own_val c3)] [(.int ((((own_val c2) <<< ((4 : Int32) &&& 31)) ||| (own_val c3)).toInt8.toInt32)), (.int (1 : Int32)), (.ref b1)])) (fun _ k_ => XS.i2b X29.here hx rfl (hb hby d6_85) rfl k_) ?_
      obtain ⟨cl31, Ar31, q31, S31, N31, H31, G31⟩ := id Vn18
      have hin31 : ¬ ((1 : Int32) < 0 ∨ cl31.slots.size ≤ ((1 : Int32)).toNatClampNeg) := inb_of S31 ⟨by decide, by decide⟩
      obtain ⟨T32, h32, X32, e32, W32, st32⟩ := stB X29 hx hZ eq29 Ar31 (j := (1 : Int32)) hin31 (g := (mkF m 86 #[rv x, iv (2 : Int32), rv b1, iv (0 : Int32), iv (1 : Int32), iv (own_val c2), iv (own_val c3)] [(.int ((((own_val c2) <<< ((4 : Int32) &&& 31)) ||| (own_val c3)).toInt8.toInt32)), (.int (1 : Int32)), (.ref b1)])) rfl rfl (hb hby d6_86)
      have V32 : Arv Z h32 b1 k1 .byte (2 : Int32) [(.int ((((own_val c0) <<< ((4 : Int32) &&& 31)) ||| (own_val c1)).toInt8.toInt32)), (.int (nar .byte ((((own_val c2) <<< ((4 : Int32) &&& 31)) ||| (own_val c3)).toInt8.toInt32)))] (.int (0 : Int32)) := Arv.set Ar31 q31 S31 N31 H31 G31 (fits_nar_byte _) W32 1 rfl (Nat.le_of_ble_eq_true rfl)
      have Vn32 : Arv Z h32 b1 k1 .byte (2 : Int32) [(.int ((((own_val c0) <<< ((4 : Int32) &&& 31)) ||| (own_val c1)).toInt8.toInt32)), (.int ((((own_val c2) <<< ((4 : Int32) &&& 31)) ||| (own_val c3)).toInt8.toInt32))] (.int (0 : Int32)) := by simpa only [own_bb] using V32
      have Nx32 := Fr.snoc X32 N29 fr1
      refine own_st (T' := T32) (g' := (mkF m 87 #[rv x, iv (2 : Int32), rv b1, iv (0 : Int32), iv (1 : Int32), iv (own_val c2), iv (own_val c3)] [])) st32 ?_
      clear hin31 G31 H31 N31 S31 q31 Ar31 cl31 st32
      refine own_st (T' := T32) (g' := (mkF m 90 #[rv x, iv (2 : Int32), rv b1, iv (0 : Int32), iv (2 : Int32), iv (own_val c2), iv (own_val c3)] [])) (fun _ k_ => XS.iinc X32.here hx rfl (hb hby d6_87) rfl (l' := #[rv x, iv (2 : Int32), rv b1, iv (0 : Int32), iv (2 : Int32), iv (own_val c2), iv (own_val c3)]) rfl k_) ?_
      refine own_st (T' := T32) (g' := (mkF m 23 #[rv x, iv (2 : Int32), rv b1, iv (0 : Int32), iv (2 : Int32), iv (own_val c2), iv (own_val c3)] [])) (fun _ k_ => XS.goto X32.here hx rfl (pc0 := 90) (pc' := 23) rfl (hb hby d6_90) (by decide) (by decide) k_) ?_
      refine own_st (T' := T32) (g' := (mkF m 25 #[rv x, iv (2 : Int32), rv b1, iv (0 : Int32), iv (2 : Int32), iv (own_val c2), iv (own_val c3)] [(.int (2 : Int32))])) (fun _ k_ => XS.iload X32.here hx rfl (hb hby d6_23) rfl  k_) ?_
      refine own_st (T' := T32) (g' := (mkF m 26 #[rv x, iv (2 : Int32), rv b1, iv (0 : Int32), iv (2 : Int32), iv (own_val c2), iv (own_val c3)] [(.int (2 : Int32)), (.int (2 : Int32))])) (fun _ k_ => XS.iloadN X32.here hx rfl (hb hby d6_25) rfl  k_) ?_
      refine own_st (T' := T32) (g' := (mkF m 93 #[rv x, iv (2 : Int32), rv b1, iv (0 : Int32), iv (2 : Int32), iv (own_val c2), iv (own_val c3)] [])) (fun _ k_ => XS.icmpYes X32.here hx rfl (pc0 := 26) (pc' := 93) rfl (hb hby d6_26) rfl (flt (by decide : ¬ ((2 : Int32) < (2 : Int32)))).2.1 (by decide) (by decide) k_) ?_
      refine own_st (T' := T32) (g' := (mkF m 94 #[rv x, iv (2 : Int32), rv b1, iv (0 : Int32), iv (2 : Int32), iv (own_val c2), iv (own_val c3)] [(.int (0 : Int32))])) (fun _ k_ => XS.iloadN X32.here hx rfl (hb hby d6_93) rfl  k_) ?_
      refine own_st (T' := T32) (g' := (mkF m 101 #[rv x, iv (2 : Int32), rv b1, iv (0 : Int32), iv (2 : Int32), iv (own_val c2), iv (own_val c3)] [])) (fun _ k_ => XS.ifYes X32.here hx rfl (pc0 := 94) (pc' := 101) rfl (hb hby d6_94) rfl ((if0 _ _).trans (teq (rfl : (0 : Int32) = (0 : Int32))).1) (by decide) (by decide) k_) ?_
      refine own_st (T' := T32) (g' := (mkF m 102 #[rv x, iv (2 : Int32), rv b1, iv (0 : Int32), iv (2 : Int32), iv (own_val c2), iv (own_val c3)] [.null])) (fun _ k_ => XS.aconstNull X32.here hx rfl (hb hby d6_101) k_) ?_
      have f33 : Keep h0 h1 [] := (Keep.refl h0 []).ext E1
      have f34 : Keep h0 h18 [] := f33.wr W18 (Or.inr sz1)
      have f35 : Keep h0 h32 [] := f34.wr W32 (Or.inr sz1)
      exact own_retA X32 hx hret rfl rfl hlk (hb hby d6_102) (by decide) (by decide) (by rw [e32]; exact ⟨.null, b1, k1, rfl, Nx32, f35, fun _ => rfl, fun q => absurd (Or.inr hc30) q⟩)
    · refine own_st (T' := T29) (g' := (mkF m 69 #[rv x, iv (2 : Int32), rv b1, iv (1 : Int32), iv (1 : Int32), iv (own_val c2), iv (own_val c3)] [])) (fun _ k_ => XS.ifNo X29.here hx rfl (hb hby d6_66) rfl ((if0 _ _).trans (flt hc30).1) k_) ?_
      refine own_st (T' := T29) (g' := (mkF m 70 #[rv x, iv (2 : Int32), rv b1, iv (1 : Int32), iv (1 : Int32), iv (own_val c2), iv (own_val c3)] [(.int (1 : Int32))])) (fun _ k_ => XS.iconst X29.here hx rfl (hb hby d6_69) k_) ?_
      refine own_st (T' := T29) (g' := (mkF m 74 #[rv x, iv (2 : Int32), rv b1, iv (1 : Int32), iv (1 : Int32), iv (own_val c2), iv (own_val c3)] [(.int (1 : Int32))])) (fun _ k_ => XS.goto X29.here hx rfl (pc0 := 70) (pc' := 74) rfl (hb hby d6_70) (by decide) (by decide) k_) ?_
      refine own_st (T' := T29) (g' := (mkF m 75 #[rv x, iv (2 : Int32), rv b1, iv (1 : Int32), iv (1 : Int32), iv (own_val c2), iv (own_val c3)] [])) (fun _ k_ => XS.istoreN X29.here hx rfl (hb hby d6_74) rfl (l' := #[rv x, iv (2 : Int32), rv b1, iv (1 : Int32), iv (1 : Int32), iv (own_val c2), iv (own_val c3)]) rfl k_) ?_
      refine own_st (T' := T29) (g' := (mkF m 76 #[rv x, iv (2 : Int32), rv b1, iv (1 : Int32), iv (1 : Int32), iv (own_val c2), iv (own_val c3)] [(.ref b1)])) (fun _ k_ => XS.aloadN X29.here hx rfl (hb hby d6_75) rfl rfl  k_) ?_
      refine own_st (T' := T29) (g' := (mkF m 78 #[rv x, iv (2 : Int32), rv b1, iv (1 : Int32), iv (1 : Int32), iv (own_val c2), iv (own_val c3)] [(.int (1 : Int32)), (.ref b1)])) (fun _ k_ => XS.iload X29.here hx rfl (hb hby d6_76) rfl  k_) ?_
      refine own_st (T' := T29) (g' := (mkF m 80 #[rv x, iv (2 : Int32), rv b1, iv (1 : Int32), iv (1 : Int32), iv (own_val c2), iv (own_val c3)] [(.int (own_val c2)), (.int (1 : Int32)), (.ref b1)])) (fun _ k_ => XS.iload X29.here hx rfl (hb hby d6_78) rfl  k_) ?_
      refine own_st (T' := T29) (g' := (mkF m 81 #[rv x, iv (2 : Int32), rv b1, iv (1 : Int32), iv (1 : Int32), iv (own_val c2), iv (own_val c3)] [(.int (4 : Int32)), (.int (own_val c2)), (.int (1 : Int32)), (.ref b1)])) (fun _ k_ => XS.iconst X29.here hx rfl (hb hby d6_80) k_) ?_
      refine own_st (T' := T29) (g' := (mkF m 82 #[rv x, iv (2 : Int32), rv b1, iv (1 : Int32), iv (1 : Int32), iv (own_val c2), iv (own_val c3)] [(.int ((own_val c2) <<< ((4 : Int32) &&& 31))), (.int (1 : Int32)), (.ref b1)])) (fun _ k_ => XS.ishl X29.here hx rfl (hb hby d6_81) rfl k_) ?_
      refine own_st (T' := T29) (g' := (mkF m 84 #[rv x, iv (2 : Int32), rv b1, iv (1 : Int32), iv (1 : Int32), iv (own_val c2), iv (own_val c3)] [(.int (own_val c3)), (.int ((own_val c2) <<< ((4 : Int32) &&& 31))), (.int (1 : Int32)), (.ref b1)])) (fun _ k_ => XS.iload X29.here hx rfl (hb hby d6_82) rfl  k_) ?_
      refine own_st (T' := T29) (g' := (mkF m 85 #[rv x, iv (2 : Int32), rv b1, iv (1 : Int32), iv (1 : Int32), iv (own_val c2), iv (own_val c3)] [(.int (((own_val c2) <<< ((4 : Int32) &&& 31)) ||| (own_val c3))), (.int (1 : Int32)), (.ref b1)])) (fun _ k_ => XS.ior X29.here hx rfl (hb hby d6_84) rfl k_) ?_
      refine own_st (T' := T29) (g' := (mkF m 86 #[rv x, iv (2 : Int32), rv b1, iv (1 : Int32), iv (1 : Int32), iv (own_val c2), iv (own_val c3)] [(.int ((((own_val c2) <<< ((4 : Int32) &&& 31)) ||| (own_val c3)).toInt8.toInt32)), (.int (1 : Int32)), (.ref b1)])) (fun _ k_ => XS.i2b X29.here hx rfl (hb hby d6_85) rfl k_) ?_
      obtain ⟨cl36, Ar36, q36, S36, N36, H36, G36⟩ := id Vn18
      have hin36 : ¬ ((1 : Int32) < 0 ∨ cl36.slots.size ≤ ((1 : Int32)).toNatClampNeg) := inb_of S36 ⟨by decide, by decide⟩
      obtain ⟨T37, h37, X37, e37, W37, st37⟩ := stB X29 hx hZ eq29 Ar36 (j := (1 : Int32)) hin36 (g := (mkF m 86 #[rv x, iv (2 : Int32), rv b1, iv (1 : Int32), iv (1 : Int32), iv (own_val c2), iv (own_val c3)] [(.int ((((own_val c2) <<< ((4 : Int32) &&& 31)) ||| (own_val c3)).toInt8.toInt32)), (.int (1 : Int32)), (.ref b1)])) rfl rfl (hb hby d6_86)
      have V37 : Arv Z h37 b1 k1 .byte (2 : Int32) [(.int ((((own_val c0) <<< ((4 : Int32) &&& 31)) ||| (own_val c1)).toInt8.toInt32)), (.int (nar .byte ((((own_val c2) <<< ((4 : Int32) &&& 31)) ||| (own_val c3)).toInt8.toInt32)))] (.int (0 : Int32)) := Arv.set Ar36 q36 S36 N36 H36 G36 (fits_nar_byte _) W37 1 rfl (Nat.le_of_ble_eq_true rfl)
      have Vn37 : Arv Z h37 b1 k1 .byte (2 : Int32) [(.int ((((own_val c0) <<< ((4 : Int32) &&& 31)) ||| (own_val c1)).toInt8.toInt32)), (.int ((((own_val c2) <<< ((4 : Int32) &&& 31)) ||| (own_val c3)).toInt8.toInt32))] (.int (0 : Int32)) := by simpa only [own_bb] using V37
      have Nx37 := Fr.snoc X37 N29 fr1
      refine own_st (T' := T37) (g' := (mkF m 87 #[rv x, iv (2 : Int32), rv b1, iv (1 : Int32), iv (1 : Int32), iv (own_val c2), iv (own_val c3)] [])) st37 ?_
      clear hin36 G36 H36 N36 S36 q36 Ar36 cl36 st37
      refine own_st (T' := T37) (g' := (mkF m 90 #[rv x, iv (2 : Int32), rv b1, iv (1 : Int32), iv (2 : Int32), iv (own_val c2), iv (own_val c3)] [])) (fun _ k_ => XS.iinc X37.here hx rfl (hb hby d6_87) rfl (l' := #[rv x, iv (2 : Int32), rv b1, iv (1 : Int32), iv (2 : Int32), iv (own_val c2), iv (own_val c3)]) rfl k_) ?_
      refine own_st (T' := T37) (g' := (mkF m 23 #[rv x, iv (2 : Int32), rv b1, iv (1 : Int32), iv (2 : Int32), iv (own_val c2), iv (own_val c3)] [])) (fun _ k_ => XS.goto X37.here hx rfl (pc0 := 90) (pc' := 23) rfl (hb hby d6_90) (by decide) (by decide) k_) ?_
      refine own_st (T' := T37) (g' := (mkF m 25 #[rv x, iv (2 : Int32), rv b1, iv (1 : Int32), iv (2 : Int32), iv (own_val c2), iv (own_val c3)] [(.int (2 : Int32))])) (fun _ k_ => XS.iload X37.here hx rfl (hb hby d6_23) rfl  k_) ?_
      refine own_st (T' := T37) (g' := (mkF m 26 #[rv x, iv (2 : Int32), rv b1, iv (1 : Int32), iv (2 : Int32), iv (own_val c2), iv (own_val c3)] [(.int (2 : Int32)), (.int (2 : Int32))])) (fun _ k_ => XS.iloadN X37.here hx rfl (hb hby d6_25) rfl  k_) ?_
      refine own_st (T' := T37) (g' := (mkF m 93 #[rv x, iv (2 : Int32), rv b1, iv (1 : Int32), iv (2 : Int32), iv (own_val c2), iv (own_val c3)] [])) (fun _ k_ => XS.icmpYes X37.here hx rfl (pc0 := 26) (pc' := 93) rfl (hb hby d6_26) rfl (flt (by decide : ¬ ((2 : Int32) < (2 : Int32)))).2.1 (by decide) (by decide) k_) ?_
      refine own_st (T' := T37) (g' := (mkF m 94 #[rv x, iv (2 : Int32), rv b1, iv (1 : Int32), iv (2 : Int32), iv (own_val c2), iv (own_val c3)] [(.int (1 : Int32))])) (fun _ k_ => XS.iloadN X37.here hx rfl (hb hby d6_93) rfl  k_) ?_
      refine own_st (T' := T37) (g' := (mkF m 97 #[rv x, iv (2 : Int32), rv b1, iv (1 : Int32), iv (2 : Int32), iv (own_val c2), iv (own_val c3)] [])) (fun _ k_ => XS.ifNo X37.here hx rfl (hb hby d6_94) rfl ((if0 _ _).trans (feq (by decide : ¬ ((1 : Int32) = (0 : Int32)))).1) k_) ?_
      refine own_st (T' := T37) (g' := (mkF m 98 #[rv x, iv (2 : Int32), rv b1, iv (1 : Int32), iv (2 : Int32), iv (own_val c2), iv (own_val c3)] [(.ref b1)])) (fun _ k_ => XS.aloadN X37.here hx rfl (hb hby d6_97) rfl rfl  k_) ?_
      refine own_st (T' := T37) (g' := (mkF m 102 #[rv x, iv (2 : Int32), rv b1, iv (1 : Int32), iv (2 : Int32), iv (own_val c2), iv (own_val c3)] [(.ref b1)])) (fun _ k_ => XS.goto X37.here hx rfl (pc0 := 98) (pc' := 102) rfl (hb hby d6_98) (by decide) (by decide) k_) ?_
      have f38 : Keep h0 h1 [] := (Keep.refl h0 []).ext E1
      have f39 : Keep h0 h18 [] := f38.wr W18 (Or.inr sz1)
      have f40 : Keep h0 h37 [] := f39.wr W37 (Or.inr sz1)
      exact own_retA X37 hx hret rfl rfl hlk (hb hby d6_102) (by decide) (by decide) (by rw [e37]; exact ⟨.ref b1, b1, k1, rfl, Nx37, f40, fun q => absurd q (fun z => z.elim hc12 hc30), fun _ => ⟨rfl, Vn37⟩⟩)
theorem pd__ICCCC_Ljava_lang_String_ : parseMethodDescriptor "(ICCCC)Ljava/lang/String;" = some ⟨[.int, .char, .char, .char, .char], some (.object "java/lang/String")⟩ := by decide +kernel
theorem pd__Ljava_lang_String_I__B : parseMethodDescriptor "(Ljava/lang/String;I)[B" = some ⟨[(.object "java/lang/String"), .int], some (.array .byte)⟩ := by decide +kernel
set_option maxRecDepth 65536 in
set_option maxHeartbeats 40000000 in
theorem seg_bad {p : Program} {l : Launch} {e : Env} {s : State} {m : MethodId} {args : Array Value} {below : List Frame} {meth : Method} {c : Code} {T0 : State} {locs : List Loc} {Z : State} {a0 : Array Value} {vm0 : Vm} {k0 : Nat} (h0 : Heap) (hB : Heap) (n0 : Nat) (p0 : Int32) (p1 : Int32) (p2 : Int32) (p3 : Int32) (p4 : Int32) (nn : Int32) (ll : Int32) (c0 : Int32) (c1 : Int32) (c2 : Int32) (c3 : Int32) (cz : Int32)
    (X0 : Stand p l e room_1 (s.setVm vm0) m args below meth c T0 locs 8 272) (hx : p.tables.exec = Jvm.exec) (hZs : Z.Warmed39 s.vm) (hZ : Z.Warmed39 (s.setVm vm0).vm) (hS0 : s.Since vm0 k0) (hk0 : k0 ≤ hB.size) (CR0 : CHr Z consts_1 s.vm h0 vm0 hB) (hw : ∀ d ∈ tables_1, d.before a0 Z = true) (hby : c.code = code) (hml : c.maxLocals = 19) (howns : s.vm.findClass "com/example/vouchsafe/vouchsafe/DigestsReadHexPinLaw" = some m.cls) (hown : (s.setVm vm0).vm.findClass "com/example/vouchsafe/vouchsafe/DigestsReadHexPinLaw" = some m.cls) (hnm : meth.name = "law") (hret : meth.sig.returnType = some .boolean) (hlk : meth.locks = false) (e0 : T0.heap = hB) (N0 : Fr n0 locs) (O0 : Old Z n0 hB) (hr0 : ¬ c0 < 0 ∧ ¬ (255 : Int32) < c0) (hr1 : ¬ c1 < 0 ∧ ¬ (255 : Int32) < c1) (hr2 : ¬ c2 < 0 ∧ ¬ (255 : Int32) < c2) (hr3 : ¬ c3 < 0 ∧ ¬ (255 : Int32) < c3) (SC : Sta Z Z.heap "java/lang/String" "COMPACT_STRINGS" "Z" (.int cz)) (hcz : ¬ cz = (0 : Int32)) (hnn : nn = 0 ∨ nn = 1 ∨ nn = 2 ∨ nn = 3 ∨ nn = 4) (hl2 : ll = 0 ∨ ll = 1 ∨ ll = 2) (hne : ¬ nn = (2 : Int32) * ll) :
    own_W p e below s room_1.cells room_1.slots Z consts_1 h0 (own_L n0) T0 (mkF m 42 #[iv p0, iv p1, iv p2, iv p3, iv p4, iv nn, iv ll, iv c0, iv c1, iv c2, iv c3, .unset, .unset, .unset, .unset, .unset, .unset, .unset, .unset] []) := by
  have hEL := own_EW hw
  refine own_stW (T' := T0) (g' := (mkF m 44 #[iv p0, iv p1, iv p2, iv p3, iv p4, iv nn, iv ll, iv c0, iv c1, iv c2, iv c3, .unset, .unset, .unset, .unset, .unset, .unset, .unset, .unset] [(.int nn)])) (fun _ k_ => XS.iload X0.here hx rfl (hb hby at_42) rfl  k_) ?_
  refine own_stW (T' := T0) (g' := (mkF m 46 #[iv p0, iv p1, iv p2, iv p3, iv p4, iv nn, iv ll, iv c0, iv c1, iv c2, iv c3, .unset, .unset, .unset, .unset, .unset, .unset, .unset, .unset] [(.int c0), (.int nn)])) (fun _ k_ => XS.iload X0.here hx rfl (hb hby at_44) rfl  k_) ?_
  refine own_stW (T' := T0) (g' := (mkF m 48 #[iv p0, iv p1, iv p2, iv p3, iv p4, iv nn, iv ll, iv c0, iv c1, iv c2, iv c3, .unset, .unset, .unset, .unset, .unset, .unset, .unset, .unset] [(.int c1), (.int c0), (.int nn)])) (fun _ k_ => XS.iload X0.here hx rfl (hb hby at_46) rfl  k_) ?_
  refine own_stW (T' := T0) (g' := (mkF m 50 #[iv p0, iv p1, iv p2, iv p3, iv p4, iv nn, iv ll, iv c0, iv c1, iv c2, iv c3, .unset, .unset, .unset, .unset, .unset, .unset, .unset, .unset] [(.int c2), (.int c1), (.int c0), (.int nn)])) (fun _ k_ => XS.iload X0.here hx rfl (hb hby at_48) rfl  k_) ?_
  refine own_stW (T' := T0) (g' := (mkF m 52 #[iv p0, iv p1, iv p2, iv p3, iv p4, iv nn, iv ll, iv c0, iv c1, iv c2, iv c3, .unset, .unset, .unset, .unset, .unset, .unset, .unset, .unset] [(.int c3), (.int c2), (.int c1), (.int c0), (.int nn)])) (fun _ k_ => XS.iload X0.here hx rfl (hb hby at_50) rfl  k_) ?_
  obtain ⟨_, T1, L1, X1, hS1, hQ1, ch1, st1⟩ := own_callSW X0 hx (y := own_m9) hown (mvT hZ (hw _ (List.mem_of_getElem? (i := 4) rfl))) (mvT hZ (hw _ (List.mem_of_getElem? (i := 5) rfl))) (mvT hZ (hw _ (List.mem_of_getElem? (i := 2) rfl))) (mvT hZ (hw _ (List.mem_of_getElem? (i := 6) rfl))) (by decide) (own_backW (W := 0) (rm_text l Z a0 hw [] nn c0 c1 c2 c3 cz hB n0 O0 SC hcz hr0 hr1 hr2 hr3) hZ (hw _ (List.mem_of_getElem? (i := 6) rfl)) (hw _ (List.mem_of_getElem? (i := 2) rfl)) (by decide) (by decide) hEL CR0.1 sf0 all0) (g := (mkF m 52 #[iv p0, iv p1, iv p2, iv p3, iv p4, iv nn, iv ll, iv c0, iv c1, iv c2, iv c3, .unset, .unset, .unset, .unset, .unset, .unset, .unset, .unset] [(.int c3), (.int c2), (.int c1), (.int c0), (.int nn)])) rfl (by rw [hml]; rfl) (argsL := [(.int nn), (.int c0), (.int c1), (.int c2), (.int c3)]) (rest := []) (lenOf pd__ICCCC_Ljava_lang_String_ rfl) rfl (by show 2 * 0 + _ ≤ _; exact Nat.le_of_eq rfl) (hb hby at_52) rfl e0 (by decide) (by decide) (c' := 14) (s' := 284) rfl rfl hS0 hk0
  obtain ⟨b1, t1, kb1, rfl, Nq1, K1, fq1_0, fq1_1, fq1_2, fq1_3, xq1_fresh_b⟩ := hQ1
  have N1 := Fr.app N0 Nq1
  have CR2 : CHr Z consts_1 s.vm h0 T1.vm T1.heap := CR0.trans ch1
  have hZ1 : Z.Warmed39 (s.setVm T1.vm).vm := own_hZ hZs hS1
  have hown1 : (s.setVm T1.vm).vm.findClass "com/example/vouchsafe/vouchsafe/DigestsReadHexPinLaw" = some m.cls := own_hown howns hS1
  refine own_stW (T' := T1) (g' := (mkF m 55 #[iv p0, iv p1, iv p2, iv p3, iv p4, iv nn, iv ll, iv c0, iv c1, iv c2, iv c3, .unset, .unset, .unset, .unset, .unset, .unset, .unset, .unset] [(.ref b1)])) st1 ?_
  clear st1
  refine own_stW (T' := T1) (g' := (mkF m 57 #[iv p0, iv p1, iv p2, iv p3, iv p4, iv nn, iv ll, iv c0, iv c1, iv c2, iv c3, rv b1, .unset, .unset, .unset, .unset, .unset, .unset, .unset] [])) (fun _ k_ => XS.astore X1.here hx rfl (hb hby at_55) rfl rfl (l' := #[iv p0, iv p1, iv p2, iv p3, iv p4, iv nn, iv ll, iv c0, iv c1, iv c2, iv c3, rv b1, .unset, .unset, .unset, .unset, .unset, .unset, .unset]) rfl k_) ?_
  refine own_stW (T' := T1) (g' := (mkF m 59 #[iv p0, iv p1, iv p2, iv p3, iv p4, iv nn, iv ll, iv c0, iv c1, iv c2, iv c3, rv b1, .unset, .unset, .unset, .unset, .unset, .unset, .unset] [(.ref b1)])) (fun _ k_ => XS.aload X1.here hx rfl (hb hby at_57) rfl rfl  k_) ?_
  refine own_stW (T' := T1) (g' := (mkF m 61 #[iv p0, iv p1, iv p2, iv p3, iv p4, iv nn, iv ll, iv c0, iv c1, iv c2, iv c3, rv b1, .unset, .unset, .unset, .unset, .unset, .unset, .unset] [(.int ll), (.ref b1)])) (fun _ k_ => XS.iload X1.here hx rfl (hb hby at_59) rfl  k_) ?_
  have f3 : Old Z n0 T1.heap := O0.keep K1 all0
  obtain ⟨_, T4, L4, X4, hQ4, st4⟩ := own_callS X1 hx (y := own_m11) hown1 (mvT hZ1 (hw _ (List.mem_of_getElem? (i := 29) rfl))) (mvT hZ1 (hw _ (List.mem_of_getElem? (i := 30) rfl))) (mvT hZ1 (hw _ (List.mem_of_getElem? (i := 31) rfl))) (mvT hZ1 (hw _ (List.mem_of_getElem? (i := 32) rfl))) (by decide) (backOf (W := 0) (rm_rhbad l Z a0 hw [] b1 ll t1 kb1 (own_txt nn c0 c1 c2 c3) cz T1.heap n0 f3 fq1_0 fq1_2 fq1_1 fq1_3 (own_txR nn c0 c1 c2 c3 hr0 hr1 hr2 hr3) (own_txL nn c0 c1 c2 c3) hl2 (by rw [own_txN hnn]; exact hne) SC hcz) hZ1 (hw _ (List.mem_of_getElem? (i := 32) rfl)) (hw _ (List.mem_of_getElem? (i := 31) rfl)) (by decide) (by decide)) (g := (mkF m 61 #[iv p0, iv p1, iv p2, iv p3, iv p4, iv nn, iv ll, iv c0, iv c1, iv c2, iv c3, rv b1, .unset, .unset, .unset, .unset, .unset, .unset, .unset] [(.int ll), (.ref b1)])) rfl (by rw [hml]; rfl) (argsL := [(.ref b1), (.int ll)]) (rest := []) (lenOf pd__Ljava_lang_String_I__B rfl) rfl (by show 2 * 0 + _ ≤ _; exact Nat.le_of_eq rfl) (hb hby at_61) rfl rfl (by decide) (by decide) (c' := 15) (s' := 286) rfl rfl
  obtain ⟨rfl, Nq4, K4⟩ := hQ4
  have N4 := Fr.app N1 Nq4
  have CR5 : CHr Z consts_1 s.vm h0 T1.vm T4.heap := CR2.trans (CHr.keep K4 sf0 CR2.1)
  refine own_stW (T' := T4) (g' := (mkF m 64 #[iv p0, iv p1, iv p2, iv p3, iv p4, iv nn, iv ll, iv c0, iv c1, iv c2, iv c3, rv b1, .unset, .unset, .unset, .unset, .unset, .unset, .unset] [.null])) st4 ?_
  clear st4
  refine own_stW (T' := T4) (g' := (mkF m 66 #[iv p0, iv p1, iv p2, iv p3, iv p4, iv nn, iv ll, iv c0, iv c1, iv c2, iv c3, rv b1, .val .null, .unset, .unset, .unset, .unset, .unset, .unset] [])) (fun _ k_ => XS.astore X4.here hx rfl (hb hby at_64) rfl rfl (l' := #[iv p0, iv p1, iv p2, iv p3, iv p4, iv nn, iv ll, iv c0, iv c1, iv c2, iv c3, rv b1, .val .null, .unset, .unset, .unset, .unset, .unset, .unset]) rfl k_) ?_
  refine own_stW (T' := T4) (g' := (mkF m 68 #[iv p0, iv p1, iv p2, iv p3, iv p4, iv nn, iv ll, iv c0, iv c1, iv c2, iv c3, rv b1, .val .null, .unset, .unset, .unset, .unset, .unset, .unset] [(.int nn)])) (fun _ k_ => XS.iload X4.here hx rfl (hb hby at_66) rfl  k_) ?_
  refine own_stW (T' := T4) (g' := (mkF m 69 #[iv p0, iv p1, iv p2, iv p3, iv p4, iv nn, iv ll, iv c0, iv c1, iv c2, iv c3, rv b1, .val .null, .unset, .unset, .unset, .unset, .unset, .unset] [(.int (2 : Int32)), (.int nn)])) (fun _ k_ => XS.iconst X4.here hx rfl (hb hby at_68) k_) ?_
  refine own_stW (T' := T4) (g' := (mkF m 71 #[iv p0, iv p1, iv p2, iv p3, iv p4, iv nn, iv ll, iv c0, iv c1, iv c2, iv c3, rv b1, .val .null, .unset, .unset, .unset, .unset, .unset, .unset] [(.int ll), (.int (2 : Int32)), (.int nn)])) (fun _ k_ => XS.iload X4.here hx rfl (hb hby at_69) rfl  k_) ?_
  refine own_stW (T' := T4) (g' := (mkF m 72 #[iv p0, iv p1, iv p2, iv p3, iv p4, iv nn, iv ll, iv c0, iv c1, iv c2, iv c3, rv b1, .val .null, .unset, .unset, .unset, .unset, .unset, .unset] [(.int ((2 : Int32) * ll)), (.int nn)])) (fun _ k_ => XS.imul X4.here hx rfl (hb hby at_71) rfl k_) ?_
  refine own_stW (T' := T4) (g' := (mkF m 75 #[iv p0, iv p1, iv p2, iv p3, iv p4, iv nn, iv ll, iv c0, iv c1, iv c2, iv c3, rv b1, .val .null, .unset, .unset, .unset, .unset, .unset, .unset] [])) (fun _ k_ => XS.icmpNo X4.here hx rfl (hb hby at_72) rfl (feq (hne : ¬ (nn = ((2 : Int32) * ll)))).1 k_) ?_
  refine own_stW (T' := T4) (g' := (mkF m 77 #[iv p0, iv p1, iv p2, iv p3, iv p4, iv nn, iv ll, iv c0, iv c1, iv c2, iv c3, rv b1, .val .null, .unset, .unset, .unset, .unset, .unset, .unset] [.null])) (fun _ k_ => XS.aload X4.here hx rfl (hb hby at_75) rfl rfl  k_) ?_
  refine own_stW (T' := T4) (g' := (mkF m 80 #[iv p0, iv p1, iv p2, iv p3, iv p4, iv nn, iv ll, iv c0, iv c1, iv c2, iv c3, rv b1, .val .null, .unset, .unset, .unset, .unset, .unset, .unset] [])) (fun _ k_ => XS.ifnonnullNo X4.here hx rfl (hb hby at_77) rfl k_) ?_
  refine own_stW (T' := T4) (g' := (mkF m 81 #[iv p0, iv p1, iv p2, iv p3, iv p4, iv nn, iv ll, iv c0, iv c1, iv c2, iv c3, rv b1, .val .null, .unset, .unset, .unset, .unset, .unset, .unset] [(.int (1 : Int32))])) (fun _ k_ => XS.iconst X4.here hx rfl (hb hby at_80) k_) ?_
  refine own_stW (T' := T4) (g' := (mkF m 85 #[iv p0, iv p1, iv p2, iv p3, iv p4, iv nn, iv ll, iv c0, iv c1, iv c2, iv c3, rv b1, .val .null, .unset, .unset, .unset, .unset, .unset, .unset] [(.int (1 : Int32))])) (fun _ k_ => XS.goto X4.here hx rfl (pc0 := 81) (pc' := 85) rfl (hb hby at_81) (by decide) (by decide) k_) ?_
  exact own_retNW X4 hZ1 hS1 (Nat.le_trans (Nat.le_refl _) K4.1) hEL CR5 hx (t := .boolean) hret (by simp) hlk (hb hby at_85) (by decide) (by decide) ⟨rfl, N4⟩
set_option maxRecDepth 65536 in
set_option maxHeartbeats 40000000 in
theorem seg_t0 {p : Program} {l : Launch} {e : Env} {s : State} {m : MethodId} {args : Array Value} {below : List Frame} {meth : Method} {c : Code} {T0 : State} {locs : List Loc} {Z : State} {a0 : Array Value} {vm0 : Vm} {k0 : Nat} (h0 : Heap) (hB : Heap) (n0 : Nat) (p0 : Int32) (p1 : Int32) (p2 : Int32) (p3 : Int32) (p4 : Int32) (c0 : Int32) (c1 : Int32) (c2 : Int32) (c3 : Int32) (cz : Int32) (fm : Value) (hv_ : Addr) (clV : Cell)
    (X0 : Stand p l e room_1 (s.setVm vm0) m args below meth c T0 locs 8 272) (hx : p.tables.exec = Jvm.exec) (hZs : Z.Warmed39 s.vm) (hZ : Z.Warmed39 (s.setVm vm0).vm) (hS0 : s.Since vm0 k0) (hk0 : k0 ≤ hB.size) (CR0 : CHr Z consts_1 s.vm h0 vm0 hB) (hw : ∀ d ∈ tables_1, d.before a0 Z = true) (hby : c.code = code) (hml : c.maxLocals = 19) (howns : s.vm.findClass "com/example/vouchsafe/vouchsafe/DigestsReadHexPinLaw" = some m.cls) (hown : (s.setVm vm0).vm.findClass "com/example/vouchsafe/vouchsafe/DigestsReadHexPinLaw" = some m.cls) (hnm : meth.name = "law") (hret : meth.sig.returnType = some .boolean) (hlk : meth.locks = false) (e0 : T0.heap = hB) (N0 : Fr n0 locs) (O0 : Old Z n0 hB) (hr0 : ¬ c0 < 0 ∧ ¬ (255 : Int32) < c0) (hr1 : ¬ c1 < 0 ∧ ¬ (255 : Int32) < c1) (hr2 : ¬ c2 < 0 ∧ ¬ (255 : Int32) < c2) (hr3 : ¬ c3 < 0 ∧ ¬ (255 : Int32) < c3) (SC : Sta Z Z.heap "java/lang/String" "COMPACT_STRINGS" "Z" (.int cz)) (hcz : ¬ cz = (0 : Int32)) (SF : Sta Z Z.heap "jdk/internal/util/Preconditions" "SIOOBE_FORMATTER" "Ljava/util/function/BiFunction;" fm) (hfm : fm.isRef = true) (SV : Sta Z Z.heap "com/example/vouchsafe/vouchsafe/Digests" "HEX_VALUES" "[B" (.ref hv_)) (HV : own_HV Z hv_ clV) :
    own_W p e below s room_1.cells room_1.slots Z consts_1 h0 (own_L n0) T0 (mkF m 42 #[iv p0, iv p1, iv p2, iv p3, iv p4, iv (0 : Int32), iv (0 : Int32), iv c0, iv c1, iv c2, iv c3, .unset, .unset, .unset, .unset, .unset, .unset, .unset, .unset] []) := by
  have hEL := own_EW hw
  refine own_stW (T' := T0) (g' := (mkF m 44 #[iv p0, iv p1, iv p2, iv p3, iv p4, iv (0 : Int32), iv (0 : Int32), iv c0, iv c1, iv c2, iv c3, .unset, .unset, .unset, .unset, .unset, .unset, .unset, .unset] [(.int (0 : Int32))])) (fun _ k_ => XS.iload X0.here hx rfl (hb hby at_42) rfl  k_) ?_
  refine own_stW (T' := T0) (g' := (mkF m 46 #[iv p0, iv p1, iv p2, iv p3, iv p4, iv (0 : Int32), iv (0 : Int32), iv c0, iv c1, iv c2, iv c3, .unset, .unset, .unset, .unset, .unset, .unset, .unset, .unset] [(.int c0), (.int (0 : Int32))])) (fun _ k_ => XS.iload X0.here hx rfl (hb hby at_44) rfl  k_) ?_
  refine own_stW (T' := T0) (g' := (mkF m 48 #[iv p0, iv p1, iv p2, iv p3, iv p4, iv (0 : Int32), iv (0 : Int32), iv c0, iv c1, iv c2, iv c3, .unset, .unset, .unset, .unset, .unset, .unset, .unset, .unset] [(.int c1), (.int c0), (.int (0 : Int32))])) (fun _ k_ => XS.iload X0.here hx rfl (hb hby at_46) rfl  k_) ?_
  refine own_stW (T' := T0) (g' := (mkF m 50 #[iv p0, iv p1, iv p2, iv p3, iv p4, iv (0 : Int32), iv (0 : Int32), iv c0, iv c1, iv c2, iv c3, .unset, .unset, .unset, .unset, .unset, .unset, .unset, .unset] [(.int c2), (.int c1), (.int c0), (.int (0 : Int32))])) (fun _ k_ => XS.iload X0.here hx rfl (hb hby at_48) rfl  k_) ?_
  refine own_stW (T' := T0) (g' := (mkF m 52 #[iv p0, iv p1, iv p2, iv p3, iv p4, iv (0 : Int32), iv (0 : Int32), iv c0, iv c1, iv c2, iv c3, .unset, .unset, .unset, .unset, .unset, .unset, .unset, .unset] [(.int c3), (.int c2), (.int c1), (.int c0), (.int (0 : Int32))])) (fun _ k_ => XS.iload X0.here hx rfl (hb hby at_50) rfl  k_) ?_
  obtain ⟨_, T1, L1, X1, hS1, hQ1, ch1, st1⟩ := own_callSW X0 hx (y := own_m9) hown (mvT hZ (hw _ (List.mem_of_getElem? (i := 4) rfl))) (mvT hZ (hw _ (List.mem_of_getElem? (i := 5) rfl))) (mvT hZ (hw _ (List.mem_of_getElem? (i := 2) rfl))) (mvT hZ (hw _ (List.mem_of_getElem? (i := 6) rfl))) (by decide) (own_backW (W := 0) (rm_text l Z a0 hw [] (0 : Int32) c0 c1 c2 c3 cz hB n0 O0 SC hcz hr0 hr1 hr2 hr3) hZ (hw _ (List.mem_of_getElem? (i := 6) rfl)) (hw _ (List.mem_of_getElem? (i := 2) rfl)) (by decide) (by decide) hEL CR0.1 sf0 all0) (g := (mkF m 52 #[iv p0, iv p1, iv p2, iv p3, iv p4, iv (0 : Int32), iv (0 : Int32), iv c0, iv c1, iv c2, iv c3, .unset, .unset, .unset, .unset, .unset, .unset, .unset, .unset] [(.int c3), (.int c2), (.int c1), (.int c0), (.int (0 : Int32))])) rfl (by rw [hml]; rfl) (argsL := [(.int (0 : Int32)), (.int c0), (.int c1), (.int c2), (.int c3)]) (rest := []) (lenOf pd__ICCCC_Ljava_lang_String_ rfl) rfl (by show 2 * 0 + _ ≤ _; exact Nat.le_of_eq rfl) (hb hby at_52) rfl e0 (by decide) (by decide) (c' := 14) (s' := 284) rfl rfl hS0 hk0
  obtain ⟨b1, t1, kb1, rfl, Nq1, K1, fq1_0, fq1_1, fq1_2, fq1_3, xq1_fresh_b⟩ := hQ1
  have N1 := Fr.app N0 Nq1
  have CR2 : CHr Z consts_1 s.vm h0 T1.vm T1.heap := CR0.trans ch1
  have hZ1 : Z.Warmed39 (s.setVm T1.vm).vm := own_hZ hZs hS1
  have hown1 : (s.setVm T1.vm).vm.findClass "com/example/vouchsafe/vouchsafe/DigestsReadHexPinLaw" = some m.cls := own_hown howns hS1
  refine own_stW (T' := T1) (g' := (mkF m 55 #[iv p0, iv p1, iv p2, iv p3, iv p4, iv (0 : Int32), iv (0 : Int32), iv c0, iv c1, iv c2, iv c3, .unset, .unset, .unset, .unset, .unset, .unset, .unset, .unset] [(.ref b1)])) st1 ?_
  clear st1
  have ft1 : Arv Z T1.heap t1 kb1 .byte (0 : Int32) [] (.int (0 : Int32)) := fq1_3
  refine own_stW (T' := T1) (g' := (mkF m 57 #[iv p0, iv p1, iv p2, iv p3, iv p4, iv (0 : Int32), iv (0 : Int32), iv c0, iv c1, iv c2, iv c3, rv b1, .unset, .unset, .unset, .unset, .unset, .unset, .unset] [])) (fun _ k_ => XS.astore X1.here hx rfl (hb hby at_55) rfl rfl (l' := #[iv p0, iv p1, iv p2, iv p3, iv p4, iv (0 : Int32), iv (0 : Int32), iv c0, iv c1, iv c2, iv c3, rv b1, .unset, .unset, .unset, .unset, .unset, .unset, .unset]) rfl k_) ?_
  refine own_stW (T' := T1) (g' := (mkF m 59 #[iv p0, iv p1, iv p2, iv p3, iv p4, iv (0 : Int32), iv (0 : Int32), iv c0, iv c1, iv c2, iv c3, rv b1, .unset, .unset, .unset, .unset, .unset, .unset, .unset] [(.ref b1)])) (fun _ k_ => XS.aload X1.here hx rfl (hb hby at_57) rfl rfl  k_) ?_
  refine own_stW (T' := T1) (g' := (mkF m 61 #[iv p0, iv p1, iv p2, iv p3, iv p4, iv (0 : Int32), iv (0 : Int32), iv c0, iv c1, iv c2, iv c3, rv b1, .unset, .unset, .unset, .unset, .unset, .unset, .unset] [(.int (0 : Int32)), (.ref b1)])) (fun _ k_ => XS.iload X1.here hx rfl (hb hby at_59) rfl  k_) ?_
  have f3 : Old Z n0 T1.heap := O0.keep K1 all0
  obtain ⟨_, T4, L4, X4, hQ4, st4⟩ := own_callS X1 hx (y := own_m11) hown1 (mvT hZ1 (hw _ (List.mem_of_getElem? (i := 29) rfl))) (mvT hZ1 (hw _ (List.mem_of_getElem? (i := 30) rfl))) (mvT hZ1 (hw _ (List.mem_of_getElem? (i := 31) rfl))) (mvT hZ1 (hw _ (List.mem_of_getElem? (i := 32) rfl))) (by decide) (backOf (W := 0) (rm_rh0 l Z a0 hw [] b1 t1 kb1 cz fm hv_ clV T1.heap n0 f3 fq1_0 fq1_2 fq1_1 ft1 SC hcz SF hfm SV HV) hZ1 (hw _ (List.mem_of_getElem? (i := 32) rfl)) (hw _ (List.mem_of_getElem? (i := 31) rfl)) (by decide) (by decide)) (g := (mkF m 61 #[iv p0, iv p1, iv p2, iv p3, iv p4, iv (0 : Int32), iv (0 : Int32), iv c0, iv c1, iv c2, iv c3, rv b1, .unset, .unset, .unset, .unset, .unset, .unset, .unset] [(.int (0 : Int32)), (.ref b1)])) rfl (by rw [hml]; rfl) (argsL := [(.ref b1), (.int (0 : Int32))]) (rest := []) (lenOf pd__Ljava_lang_String_I__B rfl) rfl (by show 2 * 0 + _ ≤ _; exact Nat.le_of_eq rfl) (hb hby at_61) rfl rfl (by decide) (by decide) (c' := 15) (s' := 284) rfl rfl
  obtain ⟨r4, b4, kb4, rfl, Nq4, K4, xq4_nul, xq4_ok⟩ := hQ4
  have N4 := Fr.app N1 Nq4
  have CR5 : CHr Z consts_1 s.vm h0 T1.vm T4.heap := CR2.trans (CHr.keep K4 sf0 CR2.1)
  refine own_stW (T' := T4) (g' := (mkF m 64 #[iv p0, iv p1, iv p2, iv p3, iv p4, iv (0 : Int32), iv (0 : Int32), iv c0, iv c1, iv c2, iv c3, rv b1, .unset, .unset, .unset, .unset, .unset, .unset, .unset] [r4])) st4 ?_
  clear st4
  obtain ⟨rfl, fr4⟩ := xq4_ok (fun q => q)
  refine own_stW (T' := T4) (g' := (mkF m 66 #[iv p0, iv p1, iv p2, iv p3, iv p4, iv (0 : Int32), iv (0 : Int32), iv c0, iv c1, iv c2, iv c3, rv b1, rv b4, .unset, .unset, .unset, .unset, .unset, .unset] [])) (fun _ k_ => XS.astore X4.here hx rfl (hb hby at_64) rfl rfl (l' := #[iv p0, iv p1, iv p2, iv p3, iv p4, iv (0 : Int32), iv (0 : Int32), iv c0, iv c1, iv c2, iv c3, rv b1, rv b4, .unset, .unset, .unset, .unset, .unset, .unset]) rfl k_) ?_
  refine own_stW (T' := T4) (g' := (mkF m 68 #[iv p0, iv p1, iv p2, iv p3, iv p4, iv (0 : Int32), iv (0 : Int32), iv c0, iv c1, iv c2, iv c3, rv b1, rv b4, .unset, .unset, .unset, .unset, .unset, .unset] [(.int (0 : Int32))])) (fun _ k_ => XS.iload X4.here hx rfl (hb hby at_66) rfl  k_) ?_
  refine own_stW (T' := T4) (g' := (mkF m 69 #[iv p0, iv p1, iv p2, iv p3, iv p4, iv (0 : Int32), iv (0 : Int32), iv c0, iv c1, iv c2, iv c3, rv b1, rv b4, .unset, .unset, .unset, .unset, .unset, .unset] [(.int (2 : Int32)), (.int (0 : Int32))])) (fun _ k_ => XS.iconst X4.here hx rfl (hb hby at_68) k_) ?_
  refine own_stW (T' := T4) (g' := (mkF m 71 #[iv p0, iv p1, iv p2, iv p3, iv p4, iv (0 : Int32), iv (0 : Int32), iv c0, iv c1, iv c2, iv c3, rv b1, rv b4, .unset, .unset, .unset, .unset, .unset, .unset] [(.int (0 : Int32)), (.int (2 : Int32)), (.int (0 : Int32))])) (fun _ k_ => XS.iload X4.here hx rfl (hb hby at_69) rfl  k_) ?_
  refine own_stW (T' := T4) (g' := (mkF m 72 #[iv p0, iv p1, iv p2, iv p3, iv p4, iv (0 : Int32), iv (0 : Int32), iv c0, iv c1, iv c2, iv c3, rv b1, rv b4, .unset, .unset, .unset, .unset, .unset, .unset] [(.int (0 : Int32)), (.int (0 : Int32))])) (fun _ k_ => XS.imul X4.here hx rfl (hb hby at_71) rfl k_) ?_
  refine own_stW (T' := T4) (g' := (mkF m 86 #[iv p0, iv p1, iv p2, iv p3, iv p4, iv (0 : Int32), iv (0 : Int32), iv c0, iv c1, iv c2, iv c3, rv b1, rv b4, .unset, .unset, .unset, .unset, .unset, .unset] [])) (fun _ k_ => XS.icmpYes X4.here hx rfl (pc0 := 72) (pc' := 86) rfl (hb hby at_72) rfl (teq (rfl : (0 : Int32) = (0 : Int32))).1 (by decide) (by decide) k_) ?_
  refine own_stW (T' := T4) (g' := (mkF m 88 #[iv p0, iv p1, iv p2, iv p3, iv p4, iv (0 : Int32), iv (0 : Int32), iv c0, iv c1, iv c2, iv c3, rv b1, rv b4, .unset, .unset, .unset, .unset, .unset, .unset] [(.int c0)])) (fun _ k_ => XS.iload X4.here hx rfl (hb hby at_86) rfl  k_) ?_
  have f6 : Old Z n0 T4.heap := f3.keep K4 all0
  obtain ⟨_, T7, L7, X7, hQ7, st7⟩ := own_callS X4 hx (y := own_m7) hown1 (mvT hZ1 (hw _ (List.mem_of_getElem? (i := 44) rfl))) (mvT hZ1 (hw _ (List.mem_of_getElem? (i := 45) rfl))) (mvT hZ1 (hw _ (List.mem_of_getElem? (i := 2) rfl))) (mvT hZ1 (hw _ (List.mem_of_getElem? (i := 46) rfl))) (by decide) (backOf (W := 0) (rm_val l Z a0 hw [] c0 T4.heap n0 f6) hZ1 (hw _ (List.mem_of_getElem? (i := 46) rfl)) (hw _ (List.mem_of_getElem? (i := 2) rfl)) (by decide) (by decide)) (g := (mkF m 88 #[iv p0, iv p1, iv p2, iv p3, iv p4, iv (0 : Int32), iv (0 : Int32), iv c0, iv c1, iv c2, iv c3, rv b1, rv b4, .unset, .unset, .unset, .unset, .unset, .unset] [(.int c0)])) rfl (by rw [hml]; rfl) (argsL := [(.int c0)]) (rest := []) (lenOf pd__C_I rfl) rfl (by show 2 * 0 + _ ≤ _; exact Nat.le_of_eq rfl) (hb hby at_88) rfl rfl (by decide) (by decide) (c' := 15) (s' := 284) rfl rfl
  obtain ⟨rfl, Nq7, eq7⟩ := hQ7
  have N7 := Fr.app N4 Nq7
  refine own_stW (T' := T7) (g' := (mkF m 91 #[iv p0, iv p1, iv p2, iv p3, iv p4, iv (0 : Int32), iv (0 : Int32), iv c0, iv c1, iv c2, iv c3, rv b1, rv b4, .unset, .unset, .unset, .unset, .unset, .unset] [(.int (own_val c0))])) st7 ?_
  clear st7
  refine own_stW (T' := T7) (g' := (mkF m 93 #[iv p0, iv p1, iv p2, iv p3, iv p4, iv (0 : Int32), iv (0 : Int32), iv c0, iv c1, iv c2, iv c3, rv b1, rv b4, iv (own_val c0), .unset, .unset, .unset, .unset, .unset] [])) (fun _ k_ => XS.istore X7.here hx rfl (hb hby at_91) rfl (l' := #[iv p0, iv p1, iv p2, iv p3, iv p4, iv (0 : Int32), iv (0 : Int32), iv c0, iv c1, iv c2, iv c3, rv b1, rv b4, iv (own_val c0), .unset, .unset, .unset, .unset, .unset]) rfl k_) ?_
  refine own_stW (T' := T7) (g' := (mkF m 95 #[iv p0, iv p1, iv p2, iv p3, iv p4, iv (0 : Int32), iv (0 : Int32), iv c0, iv c1, iv c2, iv c3, rv b1, rv b4, iv (own_val c0), .unset, .unset, .unset, .unset, .unset] [(.int c1)])) (fun _ k_ => XS.iload X7.here hx rfl (hb hby at_93) rfl  k_) ?_
  obtain ⟨_, T8, L8, X8, hQ8, st8⟩ := own_callS X7 hx (y := own_m7) hown1 (mvT hZ1 (hw _ (List.mem_of_getElem? (i := 44) rfl))) (mvT hZ1 (hw _ (List.mem_of_getElem? (i := 45) rfl))) (mvT hZ1 (hw _ (List.mem_of_getElem? (i := 2) rfl))) (mvT hZ1 (hw _ (List.mem_of_getElem? (i := 46) rfl))) (by decide) (backOf (W := 0) (rm_val l Z a0 hw [] c1 T4.heap n0 f6) hZ1 (hw _ (List.mem_of_getElem? (i := 46) rfl)) (hw _ (List.mem_of_getElem? (i := 2) rfl)) (by decide) (by decide)) (g := (mkF m 95 #[iv p0, iv p1, iv p2, iv p3, iv p4, iv (0 : Int32), iv (0 : Int32), iv c0, iv c1, iv c2, iv c3, rv b1, rv b4, iv (own_val c0), .unset, .unset, .unset, .unset, .unset] [(.int c1)])) rfl (by rw [hml]; rfl) (argsL := [(.int c1)]) (rest := []) (lenOf pd__C_I rfl) rfl (by show 2 * 0 + _ ≤ _; exact Nat.le_of_eq rfl) (hb hby at_95) rfl eq7 (by decide) (by decide) (c' := 15) (s' := 284) rfl rfl
  obtain ⟨rfl, Nq8, eq8⟩ := hQ8
  have N8 := Fr.app N7 Nq8
  refine own_stW (T' := T8) (g' := (mkF m 98 #[iv p0, iv p1, iv p2, iv p3, iv p4, iv (0 : Int32), iv (0 : Int32), iv c0, iv c1, iv c2, iv c3, rv b1, rv b4, iv (own_val c0), .unset, .unset, .unset, .unset, .unset] [(.int (own_val c1))])) st8 ?_
  clear st8
  refine own_stW (T' := T8) (g' := (mkF m 100 #[iv p0, iv p1, iv p2, iv p3, iv p4, iv (0 : Int32), iv (0 : Int32), iv c0, iv c1, iv c2, iv c3, rv b1, rv b4, iv (own_val c0), iv (own_val c1), .unset, .unset, .unset, .unset] [])) (fun _ k_ => XS.istore X8.here hx rfl (hb hby at_98) rfl (l' := #[iv p0, iv p1, iv p2, iv p3, iv p4, iv (0 : Int32), iv (0 : Int32), iv c0, iv c1, iv c2, iv c3, rv b1, rv b4, iv (own_val c0), iv (own_val c1), .unset, .unset, .unset, .unset]) rfl k_) ?_
  refine own_stW (T' := T8) (g' := (mkF m 102 #[iv p0, iv p1, iv p2, iv p3, iv p4, iv (0 : Int32), iv (0 : Int32), iv c0, iv c1, iv c2, iv c3, rv b1, rv b4, iv (own_val c0), iv (own_val c1), .unset, .unset, .unset, .unset] [(.int c2)])) (fun _ k_ => XS.iload X8.here hx rfl (hb hby at_100) rfl  k_) ?_
  obtain ⟨_, T9, L9, X9, hQ9, st9⟩ := own_callS X8 hx (y := own_m7) hown1 (mvT hZ1 (hw _ (List.mem_of_getElem? (i := 44) rfl))) (mvT hZ1 (hw _ (List.mem_of_getElem? (i := 45) rfl))) (mvT hZ1 (hw _ (List.mem_of_getElem? (i := 2) rfl))) (mvT hZ1 (hw _ (List.mem_of_getElem? (i := 46) rfl))) (by decide) (backOf (W := 0) (rm_val l Z a0 hw [] c2 T4.heap n0 f6) hZ1 (hw _ (List.mem_of_getElem? (i := 46) rfl)) (hw _ (List.mem_of_getElem? (i := 2) rfl)) (by decide) (by decide)) (g := (mkF m 102 #[iv p0, iv p1, iv p2, iv p3, iv p4, iv (0 : Int32), iv (0 : Int32), iv c0, iv c1, iv c2, iv c3, rv b1, rv b4, iv (own_val c0), iv (own_val c1), .unset, .unset, .unset, .unset] [(.int c2)])) rfl (by rw [hml]; rfl) (argsL := [(.int c2)]) (rest := []) (lenOf pd__C_I rfl) rfl (by show 2 * 0 + _ ≤ _; exact Nat.le_of_eq rfl) (hb hby at_102) rfl eq8 (by decide) (by decide) (c' := 15) (s' := 284) rfl rfl
  obtain ⟨rfl, Nq9, eq9⟩ := hQ9
  have N9 := Fr.app N8 Nq9
  refine own_stW (T' := T9) (g' := (mkF m 105 #[iv p0, iv p1, iv p2, iv p3, iv p4, iv (0 : Int32), iv (0 : Int32), iv c0, iv c1, iv c2, iv c3, rv b1, rv b4, iv (own_val c0), iv (own_val c1), .unset, .unset, .unset, .unset] [(.int (own_val c2))])) st9 ?_
  clear st9
  refine own_stW (T' := T9) (g' := (mkF m 107 #[iv p0, iv p1, iv p2, iv p3, iv p4, iv (0 : Int32), iv (0 : Int32), iv c0, iv c1, iv c2, iv c3, rv b1, rv b4, iv (own_val c0), iv (own_val c1), iv (own_val c2), .unset, .unset, .unset] [])) (fun _ k_ => XS.istore X9.here hx rfl (hb hby at_105) rfl (l' := #[iv p0, iv p1, iv p2, iv p3, iv p4, iv (0 : Int32), iv (0 : Int32), iv c0, iv c1, iv c2, iv c3, rv b1, rv b4, iv (own_val c0), iv (own_val c1), iv (own_val c2), .unset, .unset, .unset]) rfl k_) ?_
  refine own_stW (T' := T9) (g' := (mkF m 109 #[iv p0, iv p1, iv p2, iv p3, iv p4, iv (0 : Int32), iv (0 : Int32), iv c0, iv c1, iv c2, iv c3, rv b1, rv b4, iv (own_val c0), iv (own_val c1), iv (own_val c2), .unset, .unset, .unset] [(.int c3)])) (fun _ k_ => XS.iload X9.here hx rfl (hb hby at_107) rfl  k_) ?_
  obtain ⟨_, T10, L10, X10, hQ10, st10⟩ := own_callS X9 hx (y := own_m7) hown1 (mvT hZ1 (hw _ (List.mem_of_getElem? (i := 44) rfl))) (mvT hZ1 (hw _ (List.mem_of_getElem? (i := 45) rfl))) (mvT hZ1 (hw _ (List.mem_of_getElem? (i := 2) rfl))) (mvT hZ1 (hw _ (List.mem_of_getElem? (i := 46) rfl))) (by decide) (backOf (W := 0) (rm_val l Z a0 hw [] c3 T4.heap n0 f6) hZ1 (hw _ (List.mem_of_getElem? (i := 46) rfl)) (hw _ (List.mem_of_getElem? (i := 2) rfl)) (by decide) (by decide)) (g := (mkF m 109 #[iv p0, iv p1, iv p2, iv p3, iv p4, iv (0 : Int32), iv (0 : Int32), iv c0, iv c1, iv c2, iv c3, rv b1, rv b4, iv (own_val c0), iv (own_val c1), iv (own_val c2), .unset, .unset, .unset] [(.int c3)])) rfl (by rw [hml]; rfl) (argsL := [(.int c3)]) (rest := []) (lenOf pd__C_I rfl) rfl (by show 2 * 0 + _ ≤ _; exact Nat.le_of_eq rfl) (hb hby at_109) rfl eq9 (by decide) (by decide) (c' := 15) (s' := 284) rfl rfl
  obtain ⟨rfl, Nq10, eq10⟩ := hQ10
  have N10 := Fr.app N9 Nq10
  refine own_stW (T' := T10) (g' := (mkF m 112 #[iv p0, iv p1, iv p2, iv p3, iv p4, iv (0 : Int32), iv (0 : Int32), iv c0, iv c1, iv c2, iv c3, rv b1, rv b4, iv (own_val c0), iv (own_val c1), iv (own_val c2), .unset, .unset, .unset] [(.int (own_val c3))])) st10 ?_
  clear st10
  refine own_stW (T' := T10) (g' := (mkF m 114 #[iv p0, iv p1, iv p2, iv p3, iv p4, iv (0 : Int32), iv (0 : Int32), iv c0, iv c1, iv c2, iv c3, rv b1, rv b4, iv (own_val c0), iv (own_val c1), iv (own_val c2), iv (own_val c3), .unset, .unset] [])) (fun _ k_ => XS.istore X10.here hx rfl (hb hby at_112) rfl (l' := #[iv p0, iv p1, iv p2, iv p3, iv p4, iv (0 : Int32), iv (0 : Int32), iv c0, iv c1, iv c2, iv c3, rv b1, rv b4, iv (own_val c0), iv (own_val c1), iv (own_val c2), iv (own_val c3), .unset, .unset]) rfl k_) ?_
  refine own_stW (T' := T10) (g' := (mkF m 116 #[iv p0, iv p1, iv p2, iv p3, iv p4, iv (0 : Int32), iv (0 : Int32), iv c0, iv c1, iv c2, iv c3, rv b1, rv b4, iv (own_val c0), iv (own_val c1), iv (own_val c2), iv (own_val c3), .unset, .unset] [(.int (0 : Int32))])) (fun _ k_ => XS.iload X10.here hx rfl (hb hby at_114) rfl  k_) ?_
  refine own_stW (T' := T10) (g' := (mkF m 117 #[iv p0, iv p1, iv p2, iv p3, iv p4, iv (0 : Int32), iv (0 : Int32), iv c0, iv c1, iv c2, iv c3, rv b1, rv b4, iv (own_val c0), iv (own_val c1), iv (own_val c2), iv (own_val c3), .unset, .unset] [(.int (1 : Int32)), (.int (0 : Int32))])) (fun _ k_ => XS.iconst X10.here hx rfl (hb hby at_116) k_) ?_
  refine own_stW (T' := T10) (g' := (mkF m 130 #[iv p0, iv p1, iv p2, iv p3, iv p4, iv (0 : Int32), iv (0 : Int32), iv c0, iv c1, iv c2, iv c3, rv b1, rv b4, iv (own_val c0), iv (own_val c1), iv (own_val c2), iv (own_val c3), .unset, .unset] [])) (fun _ k_ => XS.icmpYes X10.here hx rfl (pc0 := 117) (pc' := 130) rfl (hb hby at_117) rfl (tlt (by decide : (0 : Int32) < (1 : Int32))).1 (by decide) (by decide) k_) ?_
  refine own_stW (T' := T10) (g' := (mkF m 131 #[iv p0, iv p1, iv p2, iv p3, iv p4, iv (0 : Int32), iv (0 : Int32), iv c0, iv c1, iv c2, iv c3, rv b1, rv b4, iv (own_val c0), iv (own_val c1), iv (own_val c2), iv (own_val c3), .unset, .unset] [(.int (1 : Int32))])) (fun _ k_ => XS.iconst X10.here hx rfl (hb hby at_130) k_) ?_
  refine own_stW (T' := T10) (g' := (mkF m 135 #[iv p0, iv p1, iv p2, iv p3, iv p4, iv (0 : Int32), iv (0 : Int32), iv c0, iv c1, iv c2, iv c3, rv b1, rv b4, iv (own_val c0), iv (own_val c1), iv (own_val c2), iv (own_val c3), .unset, .unset] [(.int (1 : Int32))])) (fun _ k_ => XS.goto X10.here hx rfl (pc0 := 131) (pc' := 135) rfl (hb hby at_131) (by decide) (by decide) k_) ?_
  refine own_stW (T' := T10) (g' := (mkF m 137 #[iv p0, iv p1, iv p2, iv p3, iv p4, iv (0 : Int32), iv (0 : Int32), iv c0, iv c1, iv c2, iv c3, rv b1, rv b4, iv (own_val c0), iv (own_val c1), iv (own_val c2), iv (own_val c3), iv (1 : Int32), .unset] [])) (fun _ k_ => XS.istore X10.here hx rfl (hb hby at_135) rfl (l' := #[iv p0, iv p1, iv p2, iv p3, iv p4, iv (0 : Int32), iv (0 : Int32), iv c0, iv c1, iv c2, iv c3, rv b1, rv b4, iv (own_val c0), iv (own_val c1), iv (own_val c2), iv (own_val c3), iv (1 : Int32), .unset]) rfl k_) ?_
  refine own_stW (T' := T10) (g' := (mkF m 139 #[iv p0, iv p1, iv p2, iv p3, iv p4, iv (0 : Int32), iv (0 : Int32), iv c0, iv c1, iv c2, iv c3, rv b1, rv b4, iv (own_val c0), iv (own_val c1), iv (own_val c2), iv (own_val c3), iv (1 : Int32), .unset] [(.int (0 : Int32))])) (fun _ k_ => XS.iload X10.here hx rfl (hb hby at_137) rfl  k_) ?_
  refine own_stW (T' := T10) (g' := (mkF m 140 #[iv p0, iv p1, iv p2, iv p3, iv p4, iv (0 : Int32), iv (0 : Int32), iv c0, iv c1, iv c2, iv c3, rv b1, rv b4, iv (own_val c0), iv (own_val c1), iv (own_val c2), iv (own_val c3), iv (1 : Int32), .unset] [(.int (2 : Int32)), (.int (0 : Int32))])) (fun _ k_ => XS.iconst X10.here hx rfl (hb hby at_139) k_) ?_
  refine own_stW (T' := T10) (g' := (mkF m 153 #[iv p0, iv p1, iv p2, iv p3, iv p4, iv (0 : Int32), iv (0 : Int32), iv c0, iv c1, iv c2, iv c3, rv b1, rv b4, iv (own_val c0), iv (own_val c1), iv (own_val c2), iv (own_val c3), iv (1 : Int32), .unset] [])) (fun _ k_ => XS.icmpYes X10.here hx rfl (pc0 := 140) (pc' := 153) rfl (hb hby at_140) rfl (tlt (by decide : (0 : Int32) < (2 : Int32))).1 (by decide) (by decide) k_) ?_
  refine own_stW (T' := T10) (g' := (mkF m 154 #[iv p0, iv p1, iv p2, iv p3, iv p4, iv (0 : Int32), iv (0 : Int32), iv c0, iv c1, iv c2, iv c3, rv b1, rv b4, iv (own_val c0), iv (own_val c1), iv (own_val c2), iv (own_val c3), iv (1 : Int32), .unset] [(.int (1 : Int32))])) (fun _ k_ => XS.iconst X10.here hx rfl (hb hby at_153) k_) ?_
  refine own_stW (T' := T10) (g' := (mkF m 158 #[iv p0, iv p1, iv p2, iv p3, iv p4, iv (0 : Int32), iv (0 : Int32), iv c0, iv c1, iv c2, iv c3, rv b1, rv b4, iv (own_val c0), iv (own_val c1), iv (own_val c2), iv (own_val c3), iv (1 : Int32), .unset] [(.int (1 : Int32))])) (fun _ k_ => XS.goto X10.here hx rfl (pc0 := 154) (pc' := 158) rfl (hb hby at_154) (by decide) (by decide) k_) ?_
  refine own_stW (T' := T10) (g' := (mkF m 160 #[iv p0, iv p1, iv p2, iv p3, iv p4, iv (0 : Int32), iv (0 : Int32), iv c0, iv c1, iv c2, iv c3, rv b1, rv b4, iv (own_val c0), iv (own_val c1), iv (own_val c2), iv (own_val c3), iv (1 : Int32), iv (1 : Int32)] [])) (fun _ k_ => XS.istore X10.here hx rfl (hb hby at_158) rfl (l' := #[iv p0, iv p1, iv p2, iv p3, iv p4, iv (0 : Int32), iv (0 : Int32), iv c0, iv c1, iv c2, iv c3, rv b1, rv b4, iv (own_val c0), iv (own_val c1), iv (own_val c2), iv (own_val c3), iv (1 : Int32), iv (1 : Int32)]) rfl k_) ?_
  refine own_stW (T' := T10) (g' := (mkF m 162 #[iv p0, iv p1, iv p2, iv p3, iv p4, iv (0 : Int32), iv (0 : Int32), iv c0, iv c1, iv c2, iv c3, rv b1, rv b4, iv (own_val c0), iv (own_val c1), iv (own_val c2), iv (own_val c3), iv (1 : Int32), iv (1 : Int32)] [(.int (1 : Int32))])) (fun _ k_ => XS.iload X10.here hx rfl (hb hby at_160) rfl  k_) ?_
  refine own_stW (T' := T10) (g' := (mkF m 165 #[iv p0, iv p1, iv p2, iv p3, iv p4, iv (0 : Int32), iv (0 : Int32), iv c0, iv c1, iv c2, iv c3, rv b1, rv b4, iv (own_val c0), iv (own_val c1), iv (own_val c2), iv (own_val c3), iv (1 : Int32), iv (1 : Int32)] [])) (fun _ k_ => XS.ifNo X10.here hx rfl (hb hby at_162) rfl ((if0 _ _).trans (feq (by decide : ¬ ((1 : Int32) = (0 : Int32)))).1) k_) ?_
  refine own_stW (T' := T10) (g' := (mkF m 167 #[iv p0, iv p1, iv p2, iv p3, iv p4, iv (0 : Int32), iv (0 : Int32), iv c0, iv c1, iv c2, iv c3, rv b1, rv b4, iv (own_val c0), iv (own_val c1), iv (own_val c2), iv (own_val c3), iv (1 : Int32), iv (1 : Int32)] [(.int (1 : Int32))])) (fun _ k_ => XS.iload X10.here hx rfl (hb hby at_165) rfl  k_) ?_
  refine own_stW (T' := T10) (g' := (mkF m 181 #[iv p0, iv p1, iv p2, iv p3, iv p4, iv (0 : Int32), iv (0 : Int32), iv c0, iv c1, iv c2, iv c3, rv b1, rv b4, iv (own_val c0), iv (own_val c1), iv (own_val c2), iv (own_val c3), iv (1 : Int32), iv (1 : Int32)] [])) (fun _ k_ => XS.ifYes X10.here hx rfl (pc0 := 167) (pc' := 181) rfl (hb hby at_167) rfl ((if0 _ _).trans (feq (by decide : ¬ ((1 : Int32) = (0 : Int32)))).2) (by decide) (by decide) k_) ?_
  refine own_stW (T' := T10) (g' := (mkF m 183 #[iv p0, iv p1, iv p2, iv p3, iv p4, iv (0 : Int32), iv (0 : Int32), iv c0, iv c1, iv c2, iv c3, rv b1, rv b4, iv (own_val c0), iv (own_val c1), iv (own_val c2), iv (own_val c3), iv (1 : Int32), iv (1 : Int32)] [(.ref b4)])) (fun _ k_ => XS.aload X10.here hx rfl (hb hby at_181) rfl rfl  k_) ?_
  refine own_stW (T' := T10) (g' := (mkF m 186 #[iv p0, iv p1, iv p2, iv p3, iv p4, iv (0 : Int32), iv (0 : Int32), iv c0, iv c1, iv c2, iv c3, rv b1, rv b4, iv (own_val c0), iv (own_val c1), iv (own_val c2), iv (own_val c3), iv (1 : Int32), iv (1 : Int32)] [])) (fun _ k_ => XS.ifnullNo X10.here hx rfl (hb hby at_183) rfl k_) ?_
  refine own_stW (T' := T10) (g' := (mkF m 188 #[iv p0, iv p1, iv p2, iv p3, iv p4, iv (0 : Int32), iv (0 : Int32), iv c0, iv c1, iv c2, iv c3, rv b1, rv b4, iv (own_val c0), iv (own_val c1), iv (own_val c2), iv (own_val c3), iv (1 : Int32), iv (1 : Int32)] [(.ref b4)])) (fun _ k_ => XS.aload X10.here hx rfl (hb hby at_186) rfl rfl  k_) ?_
  obtain ⟨cl11, Ar11, -, S11, N11, -, -⟩ := id fr4
  refine own_stW (T' := T10) (g' := (mkF m 189 #[iv p0, iv p1, iv p2, iv p3, iv p4, iv (0 : Int32), iv (0 : Int32), iv c0, iv c1, iv c2, iv c3, rv b1, rv b4, iv (own_val c0), iv (own_val c1), iv (own_val c2), iv (own_val c3), iv (1 : Int32), iv (1 : Int32)] [(.int (0 : Int32))])) (fun t_ k_ => X10.arraylength hx (by rw [eq10]; exact Ar11.1) (State.isArrayOf_alike hZ1.alike Ar11.2.1) (g := (mkF m 188 #[iv p0, iv p1, iv p2, iv p3, iv p4, iv (0 : Int32), iv (0 : Int32), iv c0, iv c1, iv c2, iv c3, rv b1, rv b4, iv (own_val c0), iv (own_val c1), iv (own_val c2), iv (own_val c3), iv (1 : Int32), iv (1 : Int32)] [(.ref b4)])) rfl rfl (hb hby at_188) _ (by rw [len_of S11 N11]; exact k_)) ?_
  refine own_stW (T' := T10) (g' := (mkF m 191 #[iv p0, iv p1, iv p2, iv p3, iv p4, iv (0 : Int32), iv (0 : Int32), iv c0, iv c1, iv c2, iv c3, rv b1, rv b4, iv (own_val c0), iv (own_val c1), iv (own_val c2), iv (own_val c3), iv (1 : Int32), iv (1 : Int32)] [(.int (0 : Int32)), (.int (0 : Int32))])) (fun _ k_ => XS.iload X10.here hx rfl (hb hby at_189) rfl  k_) ?_
  refine own_stW (T' := T10) (g' := (mkF m 196 #[iv p0, iv p1, iv p2, iv p3, iv p4, iv (0 : Int32), iv (0 : Int32), iv c0, iv c1, iv c2, iv c3, rv b1, rv b4, iv (own_val c0), iv (own_val c1), iv (own_val c2), iv (own_val c3), iv (1 : Int32), iv (1 : Int32)] [])) (fun _ k_ => XS.icmpYes X10.here hx rfl (pc0 := 191) (pc' := 196) rfl (hb hby at_191) rfl (teq (rfl : (0 : Int32) = (0 : Int32))).1 (by decide) (by decide) k_) ?_
  refine own_stW (T' := T10) (g' := (mkF m 198 #[iv p0, iv p1, iv p2, iv p3, iv p4, iv (0 : Int32), iv (0 : Int32), iv c0, iv c1, iv c2, iv c3, rv b1, rv b4, iv (own_val c0), iv (own_val c1), iv (own_val c2), iv (own_val c3), iv (1 : Int32), iv (1 : Int32)] [(.int (0 : Int32))])) (fun _ k_ => XS.iload X10.here hx rfl (hb hby at_196) rfl  k_) ?_
  refine own_stW (T' := T10) (g' := (mkF m 199 #[iv p0, iv p1, iv p2, iv p3, iv p4, iv (0 : Int32), iv (0 : Int32), iv c0, iv c1, iv c2, iv c3, rv b1, rv b4, iv (own_val c0), iv (own_val c1), iv (own_val c2), iv (own_val c3), iv (1 : Int32), iv (1 : Int32)] [(.int (1 : Int32)), (.int (0 : Int32))])) (fun _ k_ => XS.iconst X10.here hx rfl (hb hby at_198) k_) ?_
  refine own_stW (T' := T10) (g' := (mkF m 220 #[iv p0, iv p1, iv p2, iv p3, iv p4, iv (0 : Int32), iv (0 : Int32), iv c0, iv c1, iv c2, iv c3, rv b1, rv b4, iv (own_val c0), iv (own_val c1), iv (own_val c2), iv (own_val c3), iv (1 : Int32), iv (1 : Int32)] [])) (fun _ k_ => XS.icmpYes X10.here hx rfl (pc0 := 199) (pc' := 220) rfl (hb hby at_199) rfl (tlt (by decide : (0 : Int32) < (1 : Int32))).1 (by decide) (by decide) k_) ?_
  refine own_stW (T' := T10) (g' := (mkF m 222 #[iv p0, iv p1, iv p2, iv p3, iv p4, iv (0 : Int32), iv (0 : Int32), iv c0, iv c1, iv c2, iv c3, rv b1, rv b4, iv (own_val c0), iv (own_val c1), iv (own_val c2), iv (own_val c3), iv (1 : Int32), iv (1 : Int32)] [(.int (0 : Int32))])) (fun _ k_ => XS.iload X10.here hx rfl (hb hby at_220) rfl  k_) ?_
  refine own_stW (T' := T10) (g' := (mkF m 223 #[iv p0, iv p1, iv p2, iv p3, iv p4, iv (0 : Int32), iv (0 : Int32), iv c0, iv c1, iv c2, iv c3, rv b1, rv b4, iv (own_val c0), iv (own_val c1), iv (own_val c2), iv (own_val c3), iv (1 : Int32), iv (1 : Int32)] [(.int (2 : Int32)), (.int (0 : Int32))])) (fun _ k_ => XS.iconst X10.here hx rfl (hb hby at_222) k_) ?_
  refine own_stW (T' := T10) (g' := (mkF m 244 #[iv p0, iv p1, iv p2, iv p3, iv p4, iv (0 : Int32), iv (0 : Int32), iv c0, iv c1, iv c2, iv c3, rv b1, rv b4, iv (own_val c0), iv (own_val c1), iv (own_val c2), iv (own_val c3), iv (1 : Int32), iv (1 : Int32)] [])) (fun _ k_ => XS.icmpYes X10.here hx rfl (pc0 := 223) (pc' := 244) rfl (hb hby at_223) rfl (tlt (by decide : (0 : Int32) < (2 : Int32))).1 (by decide) (by decide) k_) ?_
  refine own_stW (T' := T10) (g' := (mkF m 245 #[iv p0, iv p1, iv p2, iv p3, iv p4, iv (0 : Int32), iv (0 : Int32), iv c0, iv c1, iv c2, iv c3, rv b1, rv b4, iv (own_val c0), iv (own_val c1), iv (own_val c2), iv (own_val c3), iv (1 : Int32), iv (1 : Int32)] [(.int (1 : Int32))])) (fun _ k_ => XS.iconst X10.here hx rfl (hb hby at_244) k_) ?_
  exact own_retNW X10 hZ1 hS1 (by rw [eq10]; exact (Nat.le_trans (Nat.le_refl _) K4.1)) hEL (by rw [eq10]; exact CR5) hx (t := .boolean) hret (by simp) hlk (hb hby at_245) (by decide) (by decide) ⟨rfl, N10⟩
set_option maxRecDepth 65536 in
set_option maxHeartbeats 40000000 in
theorem seg_t1 {p : Program} {l : Launch} {e : Env} {s : State} {m : MethodId} {args : Array Value} {below : List Frame} {meth : Method} {c : Code} {T0 : State} {locs : List Loc} {Z : State} {a0 : Array Value} {vm0 : Vm} {k0 : Nat} (h0 : Heap) (hB : Heap) (n0 : Nat) (p0 : Int32) (p1 : Int32) (p2 : Int32) (p3 : Int32) (p4 : Int32) (c0 : Int32) (c1 : Int32) (c2 : Int32) (c3 : Int32) (cz : Int32) (fm : Value) (hv_ : Addr) (clV : Cell)
    (X0 : Stand p l e room_1 (s.setVm vm0) m args below meth c T0 locs 8 272) (hx : p.tables.exec = Jvm.exec) (hZs : Z.Warmed39 s.vm) (hZ : Z.Warmed39 (s.setVm vm0).vm) (hS0 : s.Since vm0 k0) (hk0 : k0 ≤ hB.size) (CR0 : CHr Z consts_1 s.vm h0 vm0 hB) (hw : ∀ d ∈ tables_1, d.before a0 Z = true) (hby : c.code = code) (hml : c.maxLocals = 19) (howns : s.vm.findClass "com/example/vouchsafe/vouchsafe/DigestsReadHexPinLaw" = some m.cls) (hown : (s.setVm vm0).vm.findClass "com/example/vouchsafe/vouchsafe/DigestsReadHexPinLaw" = some m.cls) (hnm : meth.name = "law") (hret : meth.sig.returnType = some .boolean) (hlk : meth.locks = false) (e0 : T0.heap = hB) (N0 : Fr n0 locs) (O0 : Old Z n0 hB) (hr0 : ¬ c0 < 0 ∧ ¬ (255 : Int32) < c0) (hr1 : ¬ c1 < 0 ∧ ¬ (255 : Int32) < c1) (hr2 : ¬ c2 < 0 ∧ ¬ (255 : Int32) < c2) (hr3 : ¬ c3 < 0 ∧ ¬ (255 : Int32) < c3) (SC : Sta Z Z.heap "java/lang/String" "COMPACT_STRINGS" "Z" (.int cz)) (hcz : ¬ cz = (0 : Int32)) (SF : Sta Z Z.heap "jdk/internal/util/Preconditions" "SIOOBE_FORMATTER" "Ljava/util/function/BiFunction;" fm) (hfm : fm.isRef = true) (SV : Sta Z Z.heap "com/example/vouchsafe/vouchsafe/Digests" "HEX_VALUES" "[B" (.ref hv_)) (HV : own_HV Z hv_ clV) :
    own_W p e below s room_1.cells room_1.slots Z consts_1 h0 (own_L n0) T0 (mkF m 42 #[iv p0, iv p1, iv p2, iv p3, iv p4, iv (2 : Int32), iv (1 : Int32), iv c0, iv c1, iv c2, iv c3, .unset, .unset, .unset, .unset, .unset, .unset, .unset, .unset] []) := by
  have hEL := own_EW hw
  refine own_stW (T' := T0) (g' := (mkF m 44 #[iv p0, iv p1, iv p2, iv p3, iv p4, iv (2 : Int32), iv (1 : Int32), iv c0, iv c1, iv c2, iv c3, .unset, .unset, .unset, .unset, .unset, .unset, .unset, .unset] [(.int (2 : Int32))])) (fun _ k_ => XS.iload X0.here hx rfl (hb hby at_42) rfl  k_) ?_
  refine own_stW (T' := T0) (g' := (mkF m 46 #[iv p0, iv p1, iv p2, iv p3, iv p4, iv (2 : Int32), iv (1 : Int32), iv c0, iv c1, iv c2, iv c3, .unset, .unset, .unset, .unset, .unset, .unset, .unset, .unset] [(.int c0), (.int (2 : Int32))])) (fun _ k_ => XS.iload X0.here hx rfl (hb hby at_44) rfl  k_) ?_
  refine own_stW (T' := T0) (g' := (mkF m 48 #[iv p0, iv p1, iv p2, iv p3, iv p4, iv (2 : Int32), iv (1 : Int32), iv c0, iv c1, iv c2, iv c3, .unset, .unset, .unset, .unset, .unset, .unset, .unset, .unset] [(.int c1), (.int c0), (.int (2 : Int32))])) (fun _ k_ => XS.iload X0.here hx rfl (hb hby at_46) rfl  k_) ?_
  refine own_stW (T' := T0) (g' := (mkF m 50 #[iv p0, iv p1, iv p2, iv p3, iv p4, iv (2 : Int32), iv (1 : Int32), iv c0, iv c1, iv c2, iv c3, .unset, .unset, .unset, .unset, .unset, .unset, .unset, .unset] [(.int c2), (.int c1), (.int c0), (.int (2 : Int32))])) (fun _ k_ => XS.iload X0.here hx rfl (hb hby at_48) rfl  k_) ?_
  refine own_stW (T' := T0) (g' := (mkF m 52 #[iv p0, iv p1, iv p2, iv p3, iv p4, iv (2 : Int32), iv (1 : Int32), iv c0, iv c1, iv c2, iv c3, .unset, .unset, .unset, .unset, .unset, .unset, .unset, .unset] [(.int c3), (.int c2), (.int c1), (.int c0), (.int (2 : Int32))])) (fun _ k_ => XS.iload X0.here hx rfl (hb hby at_50) rfl  k_) ?_
  obtain ⟨_, T1, L1, X1, hS1, hQ1, ch1, st1⟩ := own_callSW X0 hx (y := own_m9) hown (mvT hZ (hw _ (List.mem_of_getElem? (i := 4) rfl))) (mvT hZ (hw _ (List.mem_of_getElem? (i := 5) rfl))) (mvT hZ (hw _ (List.mem_of_getElem? (i := 2) rfl))) (mvT hZ (hw _ (List.mem_of_getElem? (i := 6) rfl))) (by decide) (own_backW (W := 0) (rm_text l Z a0 hw [] (2 : Int32) c0 c1 c2 c3 cz hB n0 O0 SC hcz hr0 hr1 hr2 hr3) hZ (hw _ (List.mem_of_getElem? (i := 6) rfl)) (hw _ (List.mem_of_getElem? (i := 2) rfl)) (by decide) (by decide) hEL CR0.1 sf0 all0) (g := (mkF m 52 #[iv p0, iv p1, iv p2, iv p3, iv p4, iv (2 : Int32), iv (1 : Int32), iv c0, iv c1, iv c2, iv c3, .unset, .unset, .unset, .unset, .unset, .unset, .unset, .unset] [(.int c3), (.int c2), (.int c1), (.int c0), (.int (2 : Int32))])) rfl (by rw [hml]; rfl) (argsL := [(.int (2 : Int32)), (.int c0), (.int c1), (.int c2), (.int c3)]) (rest := []) (lenOf pd__ICCCC_Ljava_lang_String_ rfl) rfl (by show 2 * 0 + _ ≤ _; exact Nat.le_of_eq rfl) (hb hby at_52) rfl e0 (by decide) (by decide) (c' := 14) (s' := 284) rfl rfl hS0 hk0
  obtain ⟨b1, t1, kb1, rfl, Nq1, K1, fq1_0, fq1_1, fq1_2, fq1_3, xq1_fresh_b⟩ := hQ1
  have N1 := Fr.app N0 Nq1
  have CR2 : CHr Z consts_1 s.vm h0 T1.vm T1.heap := CR0.trans ch1
  have hZ1 : Z.Warmed39 (s.setVm T1.vm).vm := own_hZ hZs hS1
  have hown1 : (s.setVm T1.vm).vm.findClass "com/example/vouchsafe/vouchsafe/DigestsReadHexPinLaw" = some m.cls := own_hown howns hS1
  refine own_stW (T' := T1) (g' := (mkF m 55 #[iv p0, iv p1, iv p2, iv p3, iv p4, iv (2 : Int32), iv (1 : Int32), iv c0, iv c1, iv c2, iv c3, .unset, .unset, .unset, .unset, .unset, .unset, .unset, .unset] [(.ref b1)])) st1 ?_
  clear st1
  have ft1 : Arv Z T1.heap t1 kb1 .byte (2 : Int32) [(.int (c0.toInt8.toInt32)), (.int (c1.toInt8.toInt32))] (.int (0 : Int32)) := fq1_3
  refine own_stW (T' := T1) (g' := (mkF m 57 #[iv p0, iv p1, iv p2, iv p3, iv p4, iv (2 : Int32), iv (1 : Int32), iv c0, iv c1, iv c2, iv c3, rv b1, .unset, .unset, .unset, .unset, .unset, .unset, .unset] [])) (fun _ k_ => XS.astore X1.here hx rfl (hb hby at_55) rfl rfl (l' := #[iv p0, iv p1, iv p2, iv p3, iv p4, iv (2 : Int32), iv (1 : Int32), iv c0, iv c1, iv c2, iv c3, rv b1, .unset, .unset, .unset, .unset, .unset, .unset, .unset]) rfl k_) ?_
  refine own_stW (T' := T1) (g' := (mkF m 59 #[iv p0, iv p1, iv p2, iv p3, iv p4, iv (2 : Int32), iv (1 : Int32), iv c0, iv c1, iv c2, iv c3, rv b1, .unset, .unset, .unset, .unset, .unset, .unset, .unset] [(.ref b1)])) (fun _ k_ => XS.aload X1.here hx rfl (hb hby at_57) rfl rfl  k_) ?_
  refine own_stW (T' := T1) (g' := (mkF m 61 #[iv p0, iv p1, iv p2, iv p3, iv p4, iv (2 : Int32), iv (1 : Int32), iv c0, iv c1, iv c2, iv c3, rv b1, .unset, .unset, .unset, .unset, .unset, .unset, .unset] [(.int (1 : Int32)), (.ref b1)])) (fun _ k_ => XS.iload X1.here hx rfl (hb hby at_59) rfl  k_) ?_
  have f3 : Old Z n0 T1.heap := O0.keep K1 all0
  obtain ⟨_, T4, L4, X4, hQ4, st4⟩ := own_callS X1 hx (y := own_m11) hown1 (mvT hZ1 (hw _ (List.mem_of_getElem? (i := 29) rfl))) (mvT hZ1 (hw _ (List.mem_of_getElem? (i := 30) rfl))) (mvT hZ1 (hw _ (List.mem_of_getElem? (i := 31) rfl))) (mvT hZ1 (hw _ (List.mem_of_getElem? (i := 32) rfl))) (by decide) (backOf (W := 0) (rm_rh1 l Z a0 hw [] b1 t1 kb1 c0 c1 cz fm hv_ clV T1.heap n0 f3 fq1_0 fq1_2 fq1_1 ft1 hr0 hr1 SC hcz SF hfm SV HV) hZ1 (hw _ (List.mem_of_getElem? (i := 32) rfl)) (hw _ (List.mem_of_getElem? (i := 31) rfl)) (by decide) (by decide)) (g := (mkF m 61 #[iv p0, iv p1, iv p2, iv p3, iv p4, iv (2 : Int32), iv (1 : Int32), iv c0, iv c1, iv c2, iv c3, rv b1, .unset, .unset, .unset, .unset, .unset, .unset, .unset] [(.int (1 : Int32)), (.ref b1)])) rfl (by rw [hml]; rfl) (argsL := [(.ref b1), (.int (1 : Int32))]) (rest := []) (lenOf pd__Ljava_lang_String_I__B rfl) rfl (by show 2 * 0 + _ ≤ _; exact Nat.le_of_eq rfl) (hb hby at_61) rfl rfl (by decide) (by decide) (c' := 15) (s' := 285) rfl rfl
  obtain ⟨r4, b4, kb4, rfl, Nq4, K4, xq4_nul, xq4_ok⟩ := hQ4
  have N4 := Fr.app N1 Nq4
  have CR5 : CHr Z consts_1 s.vm h0 T1.vm T4.heap := CR2.trans (CHr.keep K4 sf0 CR2.1)
  refine own_stW (T' := T4) (g' := (mkF m 64 #[iv p0, iv p1, iv p2, iv p3, iv p4, iv (2 : Int32), iv (1 : Int32), iv c0, iv c1, iv c2, iv c3, rv b1, .unset, .unset, .unset, .unset, .unset, .unset, .unset] [r4])) st4 ?_
  clear st4
  by_cases hbad : ((own_val c0 ||| own_val c1) < 0)
  · obtain rfl : r4 = .null := xq4_nul hbad
    refine own_stW (T' := T4) (g' := (mkF m 66 #[iv p0, iv p1, iv p2, iv p3, iv p4, iv (2 : Int32), iv (1 : Int32), iv c0, iv c1, iv c2, iv c3, rv b1, .val .null, .unset, .unset, .unset, .unset, .unset, .unset] [])) (fun _ k_ => XS.astore X4.here hx rfl (hb hby at_64) rfl rfl (l' := #[iv p0, iv p1, iv p2, iv p3, iv p4, iv (2 : Int32), iv (1 : Int32), iv c0, iv c1, iv c2, iv c3, rv b1, .val .null, .unset, .unset, .unset, .unset, .unset, .unset]) rfl k_) ?_
    refine own_stW (T' := T4) (g' := (mkF m 68 #[iv p0, iv p1, iv p2, iv p3, iv p4, iv (2 : Int32), iv (1 : Int32), iv c0, iv c1, iv c2, iv c3, rv b1, .val .null, .unset, .unset, .unset, .unset, .unset, .unset] [(.int (2 : Int32))])) (fun _ k_ => XS.iload X4.here hx rfl (hb hby at_66) rfl  k_) ?_
    refine own_stW (T' := T4) (g' := (mkF m 69 #[iv p0, iv p1, iv p2, iv p3, iv p4, iv (2 : Int32), iv (1 : Int32), iv c0, iv c1, iv c2, iv c3, rv b1, .val .null, .unset, .unset, .unset, .unset, .unset, .unset] [(.int (2 : Int32)), (.int (2 : Int32))])) (fun _ k_ => XS.iconst X4.here hx rfl (hb hby at_68) k_) ?_
    refine own_stW (T' := T4) (g' := (mkF m 71 #[iv p0, iv p1, iv p2, iv p3, iv p4, iv (2 : Int32), iv (1 : Int32), iv c0, iv c1, iv c2, iv c3, rv b1, .val .null, .unset, .unset, .unset, .unset, .unset, .unset] [(.int (1 : Int32)), (.int (2 : Int32)), (.int (2 : Int32))])) (fun _ k_ => XS.iload X4.here hx rfl (hb hby at_69) rfl  k_) ?_
    refine own_stW (T' := T4) (g' := (mkF m 72 #[iv p0, iv p1, iv p2, iv p3, iv p4, iv (2 : Int32), iv (1 : Int32), iv c0, iv c1, iv c2, iv c3, rv b1, .val .null, .unset, .unset, .unset, .unset, .unset, .unset] [(.int (2 : Int32)), (.int (2 : Int32))])) (fun _ k_ => XS.imul X4.here hx rfl (hb hby at_71) rfl k_) ?_
    refine own_stW (T' := T4) (g' := (mkF m 86 #[iv p0, iv p1, iv p2, iv p3, iv p4, iv (2 : Int32), iv (1 : Int32), iv c0, iv c1, iv c2, iv c3, rv b1, .val .null, .unset, .unset, .unset, .unset, .unset, .unset] [])) (fun _ k_ => XS.icmpYes X4.here hx rfl (pc0 := 72) (pc' := 86) rfl (hb hby at_72) rfl (teq (rfl : (2 : Int32) = (2 : Int32))).1 (by decide) (by decide) k_) ?_
    refine own_stW (T' := T4) (g' := (mkF m 88 #[iv p0, iv p1, iv p2, iv p3, iv p4, iv (2 : Int32), iv (1 : Int32), iv c0, iv c1, iv c2, iv c3, rv b1, .val .null, .unset, .unset, .unset, .unset, .unset, .unset] [(.int c0)])) (fun _ k_ => XS.iload X4.here hx rfl (hb hby at_86) rfl  k_) ?_
    have f6 : Old Z n0 T4.heap := f3.keep K4 all0
    obtain ⟨_, T7, L7, X7, hQ7, st7⟩ := own_callS X4 hx (y := own_m7) hown1 (mvT hZ1 (hw _ (List.mem_of_getElem? (i := 44) rfl))) (mvT hZ1 (hw _ (List.mem_of_getElem? (i := 45) rfl))) (mvT hZ1 (hw _ (List.mem_of_getElem? (i := 2) rfl))) (mvT hZ1 (hw _ (List.mem_of_getElem? (i := 46) rfl))) (by decide) (backOf (W := 0) (rm_val l Z a0 hw [] c0 T4.heap n0 f6) hZ1 (hw _ (List.mem_of_getElem? (i := 46) rfl)) (hw _ (List.mem_of_getElem? (i := 2) rfl)) (by decide) (by decide)) (g := (mkF m 88 #[iv p0, iv p1, iv p2, iv p3, iv p4, iv (2 : Int32), iv (1 : Int32), iv c0, iv c1, iv c2, iv c3, rv b1, .val .null, .unset, .unset, .unset, .unset, .unset, .unset] [(.int c0)])) rfl (by rw [hml]; rfl) (argsL := [(.int c0)]) (rest := []) (lenOf pd__C_I rfl) rfl (by show 2 * 0 + _ ≤ _; exact Nat.le_of_eq rfl) (hb hby at_88) rfl rfl (by decide) (by decide) (c' := 15) (s' := 285) rfl rfl
    obtain ⟨rfl, Nq7, eq7⟩ := hQ7
    have N7 := Fr.app N4 Nq7
    refine own_stW (T' := T7) (g' := (mkF m 91 #[iv p0, iv p1, iv p2, iv p3, iv p4, iv (2 : Int32), iv (1 : Int32), iv c0, iv c1, iv c2, iv c3, rv b1, .val .null, .unset, .unset, .unset, .unset, .unset, .unset] [(.int (own_val c0))])) st7 ?_
    clear st7
    refine own_stW (T' := T7) (g' := (mkF m 93 #[iv p0, iv p1, iv p2, iv p3, iv p4, iv (2 : Int32), iv (1 : Int32), iv c0, iv c1, iv c2, iv c3, rv b1, .val .null, iv (own_val c0), .unset, .unset, .unset, .unset, .unset] [])) (fun _ k_ => XS.istore X7.here hx rfl (hb hby at_91) rfl (l' := #[iv p0, iv p1, iv p2, iv p3, iv p4, iv (2 : Int32), iv (1 : Int32), iv c0, iv c1, iv c2, iv c3, rv b1, .val .null, iv (own_val c0), .unset, .unset, .unset, .unset, .unset]) rfl k_) ?_
    refine own_stW (T' := T7) (g' := (mkF m 95 #[iv p0, iv p1, iv p2, iv p3, iv p4, iv (2 : Int32), iv (1 : Int32), iv c0, iv c1, iv c2, iv c3, rv b1, .val .null, iv (own_val c0), .unset, .unset, .unset, .unset, .unset] [(.int c1)])) (fun _ k_ => XS.iload X7.here hx rfl (hb hby at_93) rfl  k_) ?_
    obtain ⟨_, T8, L8, X8, hQ8, st8⟩ := own_callS X7 hx (y := own_m7) hown1 (mvT hZ1 (hw _ (List.mem_of_getElem? (i := 44) rfl))) (mvT hZ1 (hw _ (List.mem_of_getElem? (i := 45) rfl))) (mvT hZ1 (hw _ (List.mem_of_getElem? (i := 2) rfl))) (mvT hZ1 (hw _ (List.mem_of_getElem? (i := 46) rfl))) (by decide) (backOf (W := 0) (rm_val l Z a0 hw [] c1 T4.heap n0 f6) hZ1 (hw _ (List.mem_of_getElem? (i := 46) rfl)) (hw _ (List.mem_of_getElem? (i := 2) rfl)) (by decide) (by decide)) (g := (mkF m 95 #[iv p0, iv p1, iv p2, iv p3, iv p4, iv (2 : Int32), iv (1 : Int32), iv c0, iv c1, iv c2, iv c3, rv b1, .val .null, iv (own_val c0), .unset, .unset, .unset, .unset, .unset] [(.int c1)])) rfl (by rw [hml]; rfl) (argsL := [(.int c1)]) (rest := []) (lenOf pd__C_I rfl) rfl (by show 2 * 0 + _ ≤ _; exact Nat.le_of_eq rfl) (hb hby at_95) rfl eq7 (by decide) (by decide) (c' := 15) (s' := 285) rfl rfl
    obtain ⟨rfl, Nq8, eq8⟩ := hQ8
    have N8 := Fr.app N7 Nq8
    refine own_stW (T' := T8) (g' := (mkF m 98 #[iv p0, iv p1, iv p2, iv p3, iv p4, iv (2 : Int32), iv (1 : Int32), iv c0, iv c1, iv c2, iv c3, rv b1, .val .null, iv (own_val c0), .unset, .unset, .unset, .unset, .unset] [(.int (own_val c1))])) st8 ?_
    clear st8
    refine own_stW (T' := T8) (g' := (mkF m 100 #[iv p0, iv p1, iv p2, iv p3, iv p4, iv (2 : Int32), iv (1 : Int32), iv c0, iv c1, iv c2, iv c3, rv b1, .val .null, iv (own_val c0), iv (own_val c1), .unset, .unset, .unset, .unset] [])) (fun _ k_ => XS.istore X8.here hx rfl (hb hby at_98) rfl (l' := #[iv p0, iv p1, iv p2, iv p3, iv p4, iv (2 : Int32), iv (1 : Int32), iv c0, iv c1, iv c2, iv c3, rv b1, .val .null, iv (own_val c0), iv (own_val c1), .unset, .unset, .unset, .unset]) rfl k_) ?_
    refine own_stW (T' := T8) (g' := (mkF m 102 #[iv p0, iv p1, iv p2, iv p3, iv p4, iv (2 : Int32), iv (1 : Int32), iv c0, iv c1, iv c2, iv c3, rv b1, .val .null, iv (own_val c0), iv (own_val c1), .unset, .unset, .unset, .unset] [(.int c2)])) (fun _ k_ => XS.iload X8.here hx rfl (hb hby at_100) rfl  k_) ?_
    obtain ⟨_, T9, L9, X9, hQ9, st9⟩ := own_callS X8 hx (y := own_m7) hown1 (mvT hZ1 (hw _ (List.mem_of_getElem? (i := 44) rfl))) (mvT hZ1 (hw _ (List.mem_of_getElem? (i := 45) rfl))) (mvT hZ1 (hw _ (List.mem_of_getElem? (i := 2) rfl))) (mvT hZ1 (hw _ (List.mem_of_getElem? (i := 46) rfl))) (by decide) (backOf (W := 0) (rm_val l Z a0 hw [] c2 T4.heap n0 f6) hZ1 (hw _ (List.mem_of_getElem? (i := 46) rfl)) (hw _ (List.mem_of_getElem? (i := 2) rfl)) (by decide) (by decide)) (g := (mkF m 102 #[iv p0, iv p1, iv p2, iv p3, iv p4, iv (2 : Int32), iv (1 : Int32), iv c0, iv c1, iv c2, iv c3, rv b1, .val .null, iv (own_val c0), iv (own_val c1), .unset, .unset, .unset, .unset] [(.int c2)])) rfl (by rw [hml]; rfl) (argsL := [(.int c2)]) (rest := []) (lenOf pd__C_I rfl) rfl (by show 2 * 0 + _ ≤ _; exact Nat.le_of_eq rfl) (hb hby at_102) rfl eq8 (by decide) (by decide) (c' := 15) (s' := 285) rfl rfl
    obtain ⟨rfl, Nq9, eq9⟩ := hQ9
    have N9 := Fr.app N8 Nq9
    refine own_stW (T' := T9) (g' := (mkF m 105 #[iv p0, iv p1, iv p2, iv p3, iv p4, iv (2 : Int32), iv (1 : Int32), iv c0, iv c1, iv c2, iv c3, rv b1, .val .null, iv (own_val c0), iv (own_val c1), .unset, .unset, .unset, .unset] [(.int (own_val c2))])) st9 ?_
    clear st9
    refine own_stW (T' := T9) (g' := (mkF m 107 #[iv p0, iv p1, iv p2, iv p3, iv p4, iv (2 : Int32), iv (1 : Int32), iv c0, iv c1, iv c2, iv c3, rv b1, .val .null, iv (own_val c0), iv (own_val c1), iv (own_val c2), .unset, .unset, .unset] [])) (fun _ k_ => XS.istore X9.here hx rfl (hb hby at_105) rfl (l' := #[iv p0, iv p1, iv p2, iv p3, iv p4, iv (2 : Int32), iv (1 : Int32), iv c0, iv c1, iv c2, iv c3, rv b1, .val .null, iv (own_val c0), iv (own_val c1), iv (own_val c2), .unset, .unset, .unset]) rfl k_) ?_
    refine own_stW (T' := T9) (g' := (mkF m 109 #[iv p0, iv p1, iv p2, iv p3, iv p4, iv (2 : Int32), iv (1 : Int32), iv c0, iv c1, iv c2, iv c3, rv b1, .val .null, iv (own_val c0), iv (own_val c1), iv (own_val c2), .unset, .unset, .unset] [(.int c3)])) (fun _ k_ => XS.iload X9.here hx rfl (hb hby at_107) rfl  k_) ?_
    obtain ⟨_, T10, L10, X10, hQ10, st10⟩ := own_callS X9 hx (y := own_m7) hown1 (mvT hZ1 (hw _ (List.mem_of_getElem? (i := 44) rfl))) (mvT hZ1 (hw _ (List.mem_of_getElem? (i := 45) rfl))) (mvT hZ1 (hw _ (List.mem_of_getElem? (i := 2) rfl))) (mvT hZ1 (hw _ (List.mem_of_getElem? (i := 46) rfl))) (by decide) (backOf (W := 0) (rm_val l Z a0 hw [] c3 T4.heap n0 f6) hZ1 (hw _ (List.mem_of_getElem? (i := 46) rfl)) (hw _ (List.mem_of_getElem? (i := 2) rfl)) (by decide) (by decide)) (g := (mkF m 109 #[iv p0, iv p1, iv p2, iv p3, iv p4, iv (2 : Int32), iv (1 : Int32), iv c0, iv c1, iv c2, iv c3, rv b1, .val .null, iv (own_val c0), iv (own_val c1), iv (own_val c2), .unset, .unset, .unset] [(.int c3)])) rfl (by rw [hml]; rfl) (argsL := [(.int c3)]) (rest := []) (lenOf pd__C_I rfl) rfl (by show 2 * 0 + _ ≤ _; exact Nat.le_of_eq rfl) (hb hby at_109) rfl eq9 (by decide) (by decide) (c' := 15) (s' := 285) rfl rfl
    obtain ⟨rfl, Nq10, eq10⟩ := hQ10
    have N10 := Fr.app N9 Nq10
    refine own_stW (T' := T10) (g' := (mkF m 112 #[iv p0, iv p1, iv p2, iv p3, iv p4, iv (2 : Int32), iv (1 : Int32), iv c0, iv c1, iv c2, iv c3, rv b1, .val .null, iv (own_val c0), iv (own_val c1), iv (own_val c2), .unset, .unset, .unset] [(.int (own_val c3))])) st10 ?_
    clear st10
    refine own_stW (T' := T10) (g' := (mkF m 114 #[iv p0, iv p1, iv p2, iv p3, iv p4, iv (2 : Int32), iv (1 : Int32), iv c0, iv c1, iv c2, iv c3, rv b1, .val .null, iv (own_val c0), iv (own_val c1), iv (own_val c2), iv (own_val c3), .unset, .unset] [])) (fun _ k_ => XS.istore X10.here hx rfl (hb hby at_112) rfl (l' := #[iv p0, iv p1, iv p2, iv p3, iv p4, iv (2 : Int32), iv (1 : Int32), iv c0, iv c1, iv c2, iv c3, rv b1, .val .null, iv (own_val c0), iv (own_val c1), iv (own_val c2), iv (own_val c3), .unset, .unset]) rfl k_) ?_
    refine own_stW (T' := T10) (g' := (mkF m 116 #[iv p0, iv p1, iv p2, iv p3, iv p4, iv (2 : Int32), iv (1 : Int32), iv c0, iv c1, iv c2, iv c3, rv b1, .val .null, iv (own_val c0), iv (own_val c1), iv (own_val c2), iv (own_val c3), .unset, .unset] [(.int (1 : Int32))])) (fun _ k_ => XS.iload X10.here hx rfl (hb hby at_114) rfl  k_) ?_
    refine own_stW (T' := T10) (g' := (mkF m 117 #[iv p0, iv p1, iv p2, iv p3, iv p4, iv (2 : Int32), iv (1 : Int32), iv c0, iv c1, iv c2, iv c3, rv b1, .val .null, iv (own_val c0), iv (own_val c1), iv (own_val c2), iv (own_val c3), .unset, .unset] [(.int (1 : Int32)), (.int (1 : Int32))])) (fun _ k_ => XS.iconst X10.here hx rfl (hb hby at_116) k_) ?_
    refine own_stW (T' := T10) (g' := (mkF m 120 #[iv p0, iv p1, iv p2, iv p3, iv p4, iv (2 : Int32), iv (1 : Int32), iv c0, iv c1, iv c2, iv c3, rv b1, .val .null, iv (own_val c0), iv (own_val c1), iv (own_val c2), iv (own_val c3), .unset, .unset] [])) (fun _ k_ => XS.icmpNo X10.here hx rfl (hb hby at_117) rfl (flt (by decide : ¬ ((1 : Int32) < (1 : Int32)))).1 k_) ?_
    refine own_stW (T' := T10) (g' := (mkF m 122 #[iv p0, iv p1, iv p2, iv p3, iv p4, iv (2 : Int32), iv (1 : Int32), iv c0, iv c1, iv c2, iv c3, rv b1, .val .null, iv (own_val c0), iv (own_val c1), iv (own_val c2), iv (own_val c3), .unset, .unset] [(.int (own_val c0))])) (fun _ k_ => XS.iload X10.here hx rfl (hb hby at_120) rfl  k_) ?_
    by_cases hc11 : (own_val c0) < (0 : Int32)
    · refine own_stW (T' := T10) (g' := (mkF m 134 #[iv p0, iv p1, iv p2, iv p3, iv p4, iv (2 : Int32), iv (1 : Int32), iv c0, iv c1, iv c2, iv c3, rv b1, .val .null, iv (own_val c0), iv (own_val c1), iv (own_val c2), iv (own_val c3), .unset, .unset] [])) (fun _ k_ => XS.ifYes X10.here hx rfl (pc0 := 122) (pc' := 134) rfl (hb hby at_122) rfl ((if0 _ _).trans (tlt hc11).1) (by decide) (by decide) k_) ?_
      refine own_stW (T' := T10) (g' := (mkF m 135 #[iv p0, iv p1, iv p2, iv p3, iv p4, iv (2 : Int32), iv (1 : Int32), iv c0, iv c1, iv c2, iv c3, rv b1, .val .null, iv (own_val c0), iv (own_val c1), iv (own_val c2), iv (own_val c3), .unset, .unset] [(.int (0 : Int32))])) (fun _ k_ => XS.iconst X10.here hx rfl (hb hby at_134) k_) ?_
      refine own_stW (T' := T10) (g' := (mkF m 137 #[iv p0, iv p1, iv p2, iv p3, iv p4, iv (2 : Int32), iv (1 : Int32), iv c0, iv c1, iv c2, iv c3, rv b1, .val .null, iv (own_val c0), iv (own_val c1), iv (own_val c2), iv (own_val c3), iv (0 : Int32), .unset] [])) (fun _ k_ => XS.istore X10.here hx rfl (hb hby at_135) rfl (l' := #[iv p0, iv p1, iv p2, iv p3, iv p4, iv (2 : Int32), iv (1 : Int32), iv c0, iv c1, iv c2, iv c3, rv b1, .val .null, iv (own_val c0), iv (own_val c1), iv (own_val c2), iv (own_val c3), iv (0 : Int32), .unset]) rfl k_) ?_
      refine own_stW (T' := T10) (g' := (mkF m 139 #[iv p0, iv p1, iv p2, iv p3, iv p4, iv (2 : Int32), iv (1 : Int32), iv c0, iv c1, iv c2, iv c3, rv b1, .val .null, iv (own_val c0), iv (own_val c1), iv (own_val c2), iv (own_val c3), iv (0 : Int32), .unset] [(.int (1 : Int32))])) (fun _ k_ => XS.iload X10.here hx rfl (hb hby at_137) rfl  k_) ?_
      refine own_stW (T' := T10) (g' := (mkF m 140 #[iv p0, iv p1, iv p2, iv p3, iv p4, iv (2 : Int32), iv (1 : Int32), iv c0, iv c1, iv c2, iv c3, rv b1, .val .null, iv (own_val c0), iv (own_val c1), iv (own_val c2), iv (own_val c3), iv (0 : Int32), .unset] [(.int (2 : Int32)), (.int (1 : Int32))])) (fun _ k_ => XS.iconst X10.here hx rfl (hb hby at_139) k_) ?_
      refine own_stW (T' := T10) (g' := (mkF m 153 #[iv p0, iv p1, iv p2, iv p3, iv p4, iv (2 : Int32), iv (1 : Int32), iv c0, iv c1, iv c2, iv c3, rv b1, .val .null, iv (own_val c0), iv (own_val c1), iv (own_val c2), iv (own_val c3), iv (0 : Int32), .unset] [])) (fun _ k_ => XS.icmpYes X10.here hx rfl (pc0 := 140) (pc' := 153) rfl (hb hby at_140) rfl (tlt (by decide : (1 : Int32) < (2 : Int32))).1 (by decide) (by decide) k_) ?_
      refine own_stW (T' := T10) (g' := (mkF m 154 #[iv p0, iv p1, iv p2, iv p3, iv p4, iv (2 : Int32), iv (1 : Int32), iv c0, iv c1, iv c2, iv c3, rv b1, .val .null, iv (own_val c0), iv (own_val c1), iv (own_val c2), iv (own_val c3), iv (0 : Int32), .unset] [(.int (1 : Int32))])) (fun _ k_ => XS.iconst X10.here hx rfl (hb hby at_153) k_) ?_
      refine own_stW (T' := T10) (g' := (mkF m 158 #[iv p0, iv p1, iv p2, iv p3, iv p4, iv (2 : Int32), iv (1 : Int32), iv c0, iv c1, iv c2, iv c3, rv b1, .val .null, iv (own_val c0), iv (own_val c1), iv (own_val c2), iv (own_val c3), iv (0 : Int32), .unset] [(.int (1 : Int32))])) (fun _ k_ => XS.goto X10.here hx rfl (pc0 := 154) (pc' := 158) rfl (hb hby at_154) (by decide) (by decide) k_) ?_
      refine own_stW (T' := T10) (g' := (mkF m 160 #[iv p0, iv p1, iv p2, iv p3, iv p4, iv (2 : Int32), iv (1 : Int32), iv c0, iv c1, iv c2, iv c3, rv b1, .val .null, iv (own_val c0), iv (own_val c1), iv (own_val c2), iv (own_val c3), iv (0 : Int32), iv (1 : Int32)] [])) (fun _ k_ => XS.istore X10.here hx rfl (hb hby at_158) rfl (l' := #[iv p0, iv p1, iv p2, iv p3, iv p4, iv (2 : Int32), iv (1 : Int32), iv c0, iv c1, iv c2, iv c3, rv b1, .val .null, iv (own_val c0), iv (own_val c1), iv (own_val c2), iv (own_val c3), iv (0 : Int32), iv (1 : Int32)]) rfl k_) ?_
      refine own_stW (T' := T10) (g' := (mkF m 162 #[iv p0, iv p1, iv p2, iv p3, iv p4, iv (2 : Int32), iv (1 : Int32), iv c0, iv c1, iv c2, iv c3, rv b1, .val .null, iv (own_val c0), iv (own_val c1), iv (own_val c2), iv (own_val c3), iv (0 : Int32), iv (1 : Int32)] [(.int (0 : Int32))])) (fun _ k_ => XS.iload X10.here hx rfl (hb hby at_160) rfl  k_) ?_
      refine own_stW (T' := T10) (g' := (mkF m 170 #[iv p0, iv p1, iv p2, iv p3, iv p4, iv (2 : Int32), iv (1 : Int32), iv c0, iv c1, iv c2, iv c3, rv b1, .val .null, iv (own_val c0), iv (own_val c1), iv (own_val c2), iv (own_val c3), iv (0 : Int32), iv (1 : Int32)] [])) (fun _ k_ => XS.ifYes X10.here hx rfl (pc0 := 162) (pc' := 170) rfl (hb hby at_162) rfl ((if0 _ _).trans (teq (rfl : (0 : Int32) = (0 : Int32))).1) (by decide) (by decide) k_) ?_
      refine own_stW (T' := T10) (g' := (mkF m 172 #[iv p0, iv p1, iv p2, iv p3, iv p4, iv (2 : Int32), iv (1 : Int32), iv c0, iv c1, iv c2, iv c3, rv b1, .val .null, iv (own_val c0), iv (own_val c1), iv (own_val c2), iv (own_val c3), iv (0 : Int32), iv (1 : Int32)] [.null])) (fun _ k_ => XS.aload X10.here hx rfl (hb hby at_170) rfl rfl  k_) ?_
      refine own_stW (T' := T10) (g' := (mkF m 175 #[iv p0, iv p1, iv p2, iv p3, iv p4, iv (2 : Int32), iv (1 : Int32), iv c0, iv c1, iv c2, iv c3, rv b1, .val .null, iv (own_val c0), iv (own_val c1), iv (own_val c2), iv (own_val c3), iv (0 : Int32), iv (1 : Int32)] [])) (fun _ k_ => XS.ifnonnullNo X10.here hx rfl (hb hby at_172) rfl k_) ?_
      refine own_stW (T' := T10) (g' := (mkF m 176 #[iv p0, iv p1, iv p2, iv p3, iv p4, iv (2 : Int32), iv (1 : Int32), iv c0, iv c1, iv c2, iv c3, rv b1, .val .null, iv (own_val c0), iv (own_val c1), iv (own_val c2), iv (own_val c3), iv (0 : Int32), iv (1 : Int32)] [(.int (1 : Int32))])) (fun _ k_ => XS.iconst X10.here hx rfl (hb hby at_175) k_) ?_
      refine own_stW (T' := T10) (g' := (mkF m 180 #[iv p0, iv p1, iv p2, iv p3, iv p4, iv (2 : Int32), iv (1 : Int32), iv c0, iv c1, iv c2, iv c3, rv b1, .val .null, iv (own_val c0), iv (own_val c1), iv (own_val c2), iv (own_val c3), iv (0 : Int32), iv (1 : Int32)] [(.int (1 : Int32))])) (fun _ k_ => XS.goto X10.here hx rfl (pc0 := 176) (pc' := 180) rfl (hb hby at_176) (by decide) (by decide) k_) ?_
      exact own_retNW X10 hZ1 hS1 (by rw [eq10]; exact (Nat.le_trans (Nat.le_refl _) K4.1)) hEL (by rw [eq10]; exact CR5) hx (t := .boolean) hret (by simp) hlk (hb hby at_180) (by decide) (by decide) ⟨rfl, N10⟩
    · refine own_stW (T' := T10) (g' := (mkF m 125 #[iv p0, iv p1, iv p2, iv p3, iv p4, iv (2 : Int32), iv (1 : Int32), iv c0, iv c1, iv c2, iv c3, rv b1, .val .null, iv (own_val c0), iv (own_val c1), iv (own_val c2), iv (own_val c3), .unset, .unset] [])) (fun _ k_ => XS.ifNo X10.here hx rfl (hb hby at_122) rfl ((if0 _ _).trans (flt hc11).1) k_) ?_
      refine own_stW (T' := T10) (g' := (mkF m 127 #[iv p0, iv p1, iv p2, iv p3, iv p4, iv (2 : Int32), iv (1 : Int32), iv c0, iv c1, iv c2, iv c3, rv b1, .val .null, iv (own_val c0), iv (own_val c1), iv (own_val c2), iv (own_val c3), .unset, .unset] [(.int (own_val c1))])) (fun _ k_ => XS.iload X10.here hx rfl (hb hby at_125) rfl  k_) ?_
      refine own_stW (T' := T10) (g' := (mkF m 134 #[iv p0, iv p1, iv p2, iv p3, iv p4, iv (2 : Int32), iv (1 : Int32), iv c0, iv c1, iv c2, iv c3, rv b1, .val .null, iv (own_val c0), iv (own_val c1), iv (own_val c2), iv (own_val c3), .unset, .unset] [])) (fun _ k_ => XS.ifYes X10.here hx rfl (pc0 := 127) (pc' := 134) rfl (hb hby at_127) rfl ((if0 _ _).trans (tlt ((own_or2 hbad hc11) : (own_val c1) < (0 : Int32))).1) (by decide) (by decide) k_) ?_
      refine own_stW (T' := T10) (g' := (mkF m 135 #[iv p0, iv p1, iv p2, iv p3, iv p4, iv (2 : Int32), iv (1 : Int32), iv c0, iv c1, iv c2, iv c3, rv b1, .val .null, iv (own_val c0), iv (own_val c1), iv (own_val c2), iv (own_val c3), .unset, .unset] [(.int (0 : Int32))])) (fun _ k_ => XS.iconst X10.here hx rfl (hb hby at_134) k_) ?_
      refine own_stW (T' := T10) (g' := (mkF m 137 #[iv p0, iv p1, iv p2, iv p3, iv p4, iv (2 : Int32), iv (1 : Int32), iv c0, iv c1, iv c2, iv c3, rv b1, .val .null, iv (own_val c0), iv (own_val c1), iv (own_val c2), iv (own_val c3), iv (0 : Int32), .unset] [])) (fun _ k_ => XS.istore X10.here hx rfl (hb hby at_135) rfl (l' := #[iv p0, iv p1, iv p2, iv p3, iv p4, iv (2 : Int32), iv (1 : Int32), iv c0, iv c1, iv c2, iv c3, rv b1, .val .null, iv (own_val c0), iv (own_val c1), iv (own_val c2), iv (own_val c3), iv (0 : Int32), .unset]) rfl k_) ?_
      refine own_stW (T' := T10) (g' := (mkF m 139 #[iv p0, iv p1, iv p2, iv p3, iv p4, iv (2 : Int32), iv (1 : Int32), iv c0, iv c1, iv c2, iv c3, rv b1, .val .null, iv (own_val c0), iv (own_val c1), iv (own_val c2), iv (own_val c3), iv (0 : Int32), .unset] [(.int (1 : Int32))])) (fun _ k_ => XS.iload X10.here hx rfl (hb hby at_137) rfl  k_) ?_
      refine own_stW (T' := T10) (g' := (mkF m 140 #[iv p0, iv p1, iv p2, iv p3, iv p4, iv (2 : Int32), iv (1 : Int32), iv c0, iv c1, iv c2, iv c3, rv b1, .val .null, iv (own_val c0), iv (own_val c1), iv (own_val c2), iv (own_val c3), iv (0 : Int32), .unset] [(.int (2 : Int32)), (.int (1 : Int32))])) (fun _ k_ => XS.iconst X10.here hx rfl (hb hby at_139) k_) ?_
      refine own_stW (T' := T10) (g' := (mkF m 153 #[iv p0, iv p1, iv p2, iv p3, iv p4, iv (2 : Int32), iv (1 : Int32), iv c0, iv c1, iv c2, iv c3, rv b1, .val .null, iv (own_val c0), iv (own_val c1), iv (own_val c2), iv (own_val c3), iv (0 : Int32), .unset] [])) (fun _ k_ => XS.icmpYes X10.here hx rfl (pc0 := 140) (pc' := 153) rfl (hb hby at_140) rfl (tlt (by decide : (1 : Int32) < (2 : Int32))).1 (by decide) (by decide) k_) ?_
      refine own_stW (T' := T10) (g' := (mkF m 154 #[iv p0, iv p1, iv p2, iv p3, iv p4, iv (2 : Int32), iv (1 : Int32), iv c0, iv c1, iv c2, iv c3, rv b1, .val .null, iv (own_val c0), iv (own_val c1), iv (own_val c2), iv (own_val c3), iv (0 : Int32), .unset] [(.int (1 : Int32))])) (fun _ k_ => XS.iconst X10.here hx rfl (hb hby at_153) k_) ?_
      refine own_stW (T' := T10) (g' := (mkF m 158 #[iv p0, iv p1, iv p2, iv p3, iv p4, iv (2 : Int32), iv (1 : Int32), iv c0, iv c1, iv c2, iv c3, rv b1, .val .null, iv (own_val c0), iv (own_val c1), iv (own_val c2), iv (own_val c3), iv (0 : Int32), .unset] [(.int (1 : Int32))])) (fun _ k_ => XS.goto X10.here hx rfl (pc0 := 154) (pc' := 158) rfl (hb hby at_154) (by decide) (by decide) k_) ?_
      refine own_stW (T' := T10) (g' := (mkF m 160 #[iv p0, iv p1, iv p2, iv p3, iv p4, iv (2 : Int32), iv (1 : Int32), iv c0, iv c1, iv c2, iv c3, rv b1, .val .null, iv (own_val c0), iv (own_val c1), iv (own_val c2), iv (own_val c3), iv (0 : Int32), iv (1 : Int32)] [])) (fun _ k_ => XS.istore X10.here hx rfl (hb hby at_158) rfl (l' := #[iv p0, iv p1, iv p2, iv p3, iv p4, iv (2 : Int32), iv (1 : Int32), iv c0, iv c1, iv c2, iv c3, rv b1, .val .null, iv (own_val c0), iv (own_val c1), iv (own_val c2), iv (own_val c3), iv (0 : Int32), iv (1 : Int32)]) rfl k_) ?_
      refine own_stW (T' := T10) (g' := (mkF m 162 #[iv p0, iv p1, iv p2, iv p3, iv p4, iv (2 : Int32), iv (1 : Int32), iv c0, iv c1, iv c2, iv c3, rv b1, .val .null, iv (own_val c0), iv (own_val c1), iv (own_val c2), iv (own_val c3), iv (0 : Int32), iv (1 : Int32)] [(.int (0 : Int32))])) (fun _ k_ => XS.iload X10.here hx rfl (hb hby at_160) rfl  k_) ?_
      refine own_stW (T' := T10) (g' := (mkF m 170 #[iv p0, iv p1, iv p2, iv p3, iv p4, iv (2 : Int32), iv (1 : Int32), iv c0, iv c1, iv c2, iv c3, rv b1, .val .null, iv (own_val c0), iv (own_val c1), iv (own_val c2), iv (own_val c3), iv (0 : Int32), iv (1 : Int32)] [])) (fun _ k_ => XS.ifYes X10.here hx rfl (pc0 := 162) (pc' := 170) rfl (hb hby at_162) rfl ((if0 _ _).trans (teq (rfl : (0 : Int32) = (0 : Int32))).1) (by decide) (by decide) k_) ?_
      refine own_stW (T' := T10) (g' := (mkF m 172 #[iv p0, iv p1, iv p2, iv p3, iv p4, iv (2 : Int32), iv (1 : Int32), iv c0, iv c1, iv c2, iv c3, rv b1, .val .null, iv (own_val c0), iv (own_val c1), iv (own_val c2), iv (own_val c3), iv (0 : Int32), iv (1 : Int32)] [.null])) (fun _ k_ => XS.aload X10.here hx rfl (hb hby at_170) rfl rfl  k_) ?_
      refine own_stW (T' := T10) (g' := (mkF m 175 #[iv p0, iv p1, iv p2, iv p3, iv p4, iv (2 : Int32), iv (1 : Int32), iv c0, iv c1, iv c2, iv c3, rv b1, .val .null, iv (own_val c0), iv (own_val c1), iv (own_val c2), iv (own_val c3), iv (0 : Int32), iv (1 : Int32)] [])) (fun _ k_ => XS.ifnonnullNo X10.here hx rfl (hb hby at_172) rfl k_) ?_
      refine own_stW (T' := T10) (g' := (mkF m 176 #[iv p0, iv p1, iv p2, iv p3, iv p4, iv (2 : Int32), iv (1 : Int32), iv c0, iv c1, iv c2, iv c3, rv b1, .val .null, iv (own_val c0), iv (own_val c1), iv (own_val c2), iv (own_val c3), iv (0 : Int32), iv (1 : Int32)] [(.int (1 : Int32))])) (fun _ k_ => XS.iconst X10.here hx rfl (hb hby at_175) k_) ?_
      refine own_stW (T' := T10) (g' := (mkF m 180 #[iv p0, iv p1, iv p2, iv p3, iv p4, iv (2 : Int32), iv (1 : Int32), iv c0, iv c1, iv c2, iv c3, rv b1, .val .null, iv (own_val c0), iv (own_val c1), iv (own_val c2), iv (own_val c3), iv (0 : Int32), iv (1 : Int32)] [(.int (1 : Int32))])) (fun _ k_ => XS.goto X10.here hx rfl (pc0 := 176) (pc' := 180) rfl (hb hby at_176) (by decide) (by decide) k_) ?_
      exact own_retNW X10 hZ1 hS1 (by rw [eq10]; exact (Nat.le_trans (Nat.le_refl _) K4.1)) hEL (by rw [eq10]; exact CR5) hx (t := .boolean) hret (by simp) hlk (hb hby at_180) (by decide) (by decide) ⟨rfl, N10⟩
  · obtain ⟨rfl, fr4⟩ := xq4_ok hbad
    refine own_stW (T' := T4) (g' := (mkF m 66 #[iv p0, iv p1, iv p2, iv p3, iv p4, iv (2 : Int32), iv (1 : Int32), iv c0, iv c1, iv c2, iv c3, rv b1, rv b4, .unset, .unset, .unset, .unset, .unset, .unset] [])) (fun _ k_ => XS.astore X4.here hx rfl (hb hby at_64) rfl rfl (l' := #[iv p0, iv p1, iv p2, iv p3, iv p4, iv (2 : Int32), iv (1 : Int32), iv c0, iv c1, iv c2, iv c3, rv b1, rv b4, .unset, .unset, .unset, .unset, .unset, .unset]) rfl k_) ?_
    refine own_stW (T' := T4) (g' := (mkF m 68 #[iv p0, iv p1, iv p2, iv p3, iv p4, iv (2 : Int32), iv (1 : Int32), iv c0, iv c1, iv c2, iv c3, rv b1, rv b4, .unset, .unset, .unset, .unset, .unset, .unset] [(.int (2 : Int32))])) (fun _ k_ => XS.iload X4.here hx rfl (hb hby at_66) rfl  k_) ?_
    refine own_stW (T' := T4) (g' := (mkF m 69 #[iv p0, iv p1, iv p2, iv p3, iv p4, iv (2 : Int32), iv (1 : Int32), iv c0, iv c1, iv c2, iv c3, rv b1, rv b4, .unset, .unset, .unset, .unset, .unset, .unset] [(.int (2 : Int32)), (.int (2 : Int32))])) (fun _ k_ => XS.iconst X4.here hx rfl (hb hby at_68) k_) ?_
    refine own_stW (T' := T4) (g' := (mkF m 71 #[iv p0, iv p1, iv p2, iv p3, iv p4, iv (2 : Int32), iv (1 : Int32), iv c0, iv c1, iv c2, iv c3, rv b1, rv b4, .unset, .unset, .unset, .unset, .unset, .unset] [(.int (1 : Int32)), (.int (2 : Int32)), (.int (2 : Int32))])) (fun _ k_ => XS.iload X4.here hx rfl (hb hby at_69) rfl  k_) ?_
    refine own_stW (T' := T4) (g' := (mkF m 72 #[iv p0, iv p1, iv p2, iv p3, iv p4, iv (2 : Int32), iv (1 : Int32), iv c0, iv c1, iv c2, iv c3, rv b1, rv b4, .unset, .unset, .unset, .unset, .unset, .unset] [(.int (2 : Int32)), (.int (2 : Int32))])) (fun _ k_ => XS.imul X4.here hx rfl (hb hby at_71) rfl k_) ?_
    refine own_stW (T' := T4) (g' := (mkF m 86 #[iv p0, iv p1, iv p2, iv p3, iv p4, iv (2 : Int32), iv (1 : Int32), iv c0, iv c1, iv c2, iv c3, rv b1, rv b4, .unset, .unset, .unset, .unset, .unset, .unset] [])) (fun _ k_ => XS.icmpYes X4.here hx rfl (pc0 := 72) (pc' := 86) rfl (hb hby at_72) rfl (teq (rfl : (2 : Int32) = (2 : Int32))).1 (by decide) (by decide) k_) ?_
    refine own_stW (T' := T4) (g' := (mkF m 88 #[iv p0, iv p1, iv p2, iv p3, iv p4, iv (2 : Int32), iv (1 : Int32), iv c0, iv c1, iv c2, iv c3, rv b1, rv b4, .unset, .unset, .unset, .unset, .unset, .unset] [(.int c0)])) (fun _ k_ => XS.iload X4.here hx rfl (hb hby at_86) rfl  k_) ?_
    have f12 : Old Z n0 T4.heap := f3.keep K4 all0
    obtain ⟨_, T13, L13, X13, hQ13, st13⟩ := own_callS X4 hx (y := own_m7) hown1 (mvT hZ1 (hw _ (List.mem_of_getElem? (i := 44) rfl))) (mvT hZ1 (hw _ (List.mem_of_getElem? (i := 45) rfl))) (mvT hZ1 (hw _ (List.mem_of_getElem? (i := 2) rfl))) (mvT hZ1 (hw _ (List.mem_of_getElem? (i := 46) rfl))) (by decide) (backOf (W := 0) (rm_val l Z a0 hw [] c0 T4.heap n0 f12) hZ1 (hw _ (List.mem_of_getElem? (i := 46) rfl)) (hw _ (List.mem_of_getElem? (i := 2) rfl)) (by decide) (by decide)) (g := (mkF m 88 #[iv p0, iv p1, iv p2, iv p3, iv p4, iv (2 : Int32), iv (1 : Int32), iv c0, iv c1, iv c2, iv c3, rv b1, rv b4, .unset, .unset, .unset, .unset, .unset, .unset] [(.int c0)])) rfl (by rw [hml]; rfl) (argsL := [(.int c0)]) (rest := []) (lenOf pd__C_I rfl) rfl (by show 2 * 0 + _ ≤ _; exact Nat.le_of_eq rfl) (hb hby at_88) rfl rfl (by decide) (by decide) (c' := 15) (s' := 285) rfl rfl
    obtain ⟨rfl, Nq13, eq13⟩ := hQ13
    have N13 := Fr.app N4 Nq13
    refine own_stW (T' := T13) (g' := (mkF m 91 #[iv p0, iv p1, iv p2, iv p3, iv p4, iv (2 : Int32), iv (1 : Int32), iv c0, iv c1, iv c2, iv c3, rv b1, rv b4, .unset, .unset, .unset, .unset, .unset, .unset] [(.int (own_val c0))])) st13 ?_
    clear st13
    refine own_stW (T' := T13) (g' := (mkF m 93 #[iv p0, iv p1, iv p2, iv p3, iv p4, iv (2 : Int32), iv (1 : Int32), iv c0, iv c1, iv c2, iv c3, rv b1, rv b4, iv (own_val c0), .unset, .unset, .unset, .unset, .unset] [])) (fun _ k_ => XS.istore X13.here hx rfl (hb hby at_91) rfl (l' := #[iv p0, iv p1, iv p2, iv p3, iv p4, iv (2 : Int32), iv (1 : Int32), iv c0, iv c1, iv c2, iv c3, rv b1, rv b4, iv (own_val c0), .unset, .unset, .unset, .unset, .unset]) rfl k_) ?_
    refine own_stW (T' := T13) (g' := (mkF m 95 #[iv p0, iv p1, iv p2, iv p3, iv p4, iv (2 : Int32), iv (1 : Int32), iv c0, iv c1, iv c2, iv c3, rv b1, rv b4, iv (own_val c0), .unset, .unset, .unset, .unset, .unset] [(.int c1)])) (fun _ k_ => XS.iload X13.here hx rfl (hb hby at_93) rfl  k_) ?_
    obtain ⟨_, T14, L14, X14, hQ14, st14⟩ := own_callS X13 hx (y := own_m7) hown1 (mvT hZ1 (hw _ (List.mem_of_getElem? (i := 44) rfl))) (mvT hZ1 (hw _ (List.mem_of_getElem? (i := 45) rfl))) (mvT hZ1 (hw _ (List.mem_of_getElem? (i := 2) rfl))) (mvT hZ1 (hw _ (List.mem_of_getElem? (i := 46) rfl))) (by decide) (backOf (W := 0) (rm_val l Z a0 hw [] c1 T4.heap n0 f12) hZ1 (hw _ (List.mem_of_getElem? (i := 46) rfl)) (hw _ (List.mem_of_getElem? (i := 2) rfl)) (by decide) (by decide)) (g := (mkF m 95 #[iv p0, iv p1, iv p2, iv p3, iv p4, iv (2 : Int32), iv (1 : Int32), iv c0, iv c1, iv c2, iv c3, rv b1, rv b4, iv (own_val c0), .unset, .unset, .unset, .unset, .unset] [(.int c1)])) rfl (by rw [hml]; rfl) (argsL := [(.int c1)]) (rest := []) (lenOf pd__C_I rfl) rfl (by show 2 * 0 + _ ≤ _; exact Nat.le_of_eq rfl) (hb hby at_95) rfl eq13 (by decide) (by decide) (c' := 15) (s' := 285) rfl rfl
    obtain ⟨rfl, Nq14, eq14⟩ := hQ14
    have N14 := Fr.app N13 Nq14
    refine own_stW (T' := T14) (g' := (mkF m 98 #[iv p0, iv p1, iv p2, iv p3, iv p4, iv (2 : Int32), iv (1 : Int32), iv c0, iv c1, iv c2, iv c3, rv b1, rv b4, iv (own_val c0), .unset, .unset, .unset, .unset, .unset] [(.int (own_val c1))])) st14 ?_
    clear st14
    refine own_stW (T' := T14) (g' := (mkF m 100 #[iv p0, iv p1, iv p2, iv p3, iv p4, iv (2 : Int32), iv (1 : Int32), iv c0, iv c1, iv c2, iv c3, rv b1, rv b4, iv (own_val c0), iv (own_val c1), .unset, .unset, .unset, .unset] [])) (fun _ k_ => XS.istore X14.here hx rfl (hb hby at_98) rfl (l' := #[iv p0, iv p1, iv p2, iv p3, iv p4, iv (2 : Int32), iv (1 : Int32), iv c0, iv c1, iv c2, iv c3, rv b1, rv b4, iv (own_val c0), iv (own_val c1), .unset, .unset, .unset, .unset]) rfl k_) ?_
    refine own_stW (T' := T14) (g' := (mkF m 102 #[iv p0, iv p1, iv p2, iv p3, iv p4, iv (2 : Int32), iv (1 : Int32), iv c0, iv c1, iv c2, iv c3, rv b1, rv b4, iv (own_val c0), iv (own_val c1), .unset, .unset, .unset, .unset] [(.int c2)])) (fun _ k_ => XS.iload X14.here hx rfl (hb hby at_100) rfl  k_) ?_
    obtain ⟨_, T15, L15, X15, hQ15, st15⟩ := own_callS X14 hx (y := own_m7) hown1 (mvT hZ1 (hw _ (List.mem_of_getElem? (i := 44) rfl))) (mvT hZ1 (hw _ (List.mem_of_getElem? (i := 45) rfl))) (mvT hZ1 (hw _ (List.mem_of_getElem? (i := 2) rfl))) (mvT hZ1 (hw _ (List.mem_of_getElem? (i := 46) rfl))) (by decide) (backOf (W := 0) (rm_val l Z a0 hw [] c2 T4.heap n0 f12) hZ1 (hw _ (List.mem_of_getElem? (i := 46) rfl)) (hw _ (List.mem_of_getElem? (i := 2) rfl)) (by decide) (by decide)) (g := (mkF m 102 #[iv p0, iv p1, iv p2, iv p3, iv p4, iv (2 : Int32), iv (1 : Int32), iv c0, iv c1, iv c2, iv c3, rv b1, rv b4, iv (own_val c0), iv (own_val c1), .unset, .unset, .unset, .unset] [(.int c2)])) rfl (by rw [hml]; rfl) (argsL := [(.int c2)]) (rest := []) (lenOf pd__C_I rfl) rfl (by show 2 * 0 + _ ≤ _; exact Nat.le_of_eq rfl) (hb hby at_102) rfl eq14 (by decide) (by decide) (c' := 15) (s' := 285) rfl rfl
    obtain ⟨rfl, Nq15, eq15⟩ := hQ15
    have N15 := Fr.app N14 Nq15
    refine own_stW (T' := T15) (g' := (mkF m 105 #[iv p0, iv p1, iv p2, iv p3, iv p4, iv (2 : Int32), iv (1 : Int32), iv c0, iv c1, iv c2, iv c3, rv b1, rv b4, iv (own_val c0), iv (own_val c1), .unset, .unset, .unset, .unset] [(.int (own_val c2))])) st15 ?_
    clear st15
    refine own_stW (T' := T15) (g' := (mkF m 107 #[iv p0, iv p1, iv p2, iv p3, iv p4, iv (2 : Int32), iv (1 : Int32), iv c0, iv c1, iv c2, iv c3, rv b1, rv b4, iv (own_val c0), iv (own_val c1), iv (own_val c2), .unset, .unset, .unset] [])) (fun _ k_ => XS.istore X15.here hx rfl (hb hby at_105) rfl (l' := #[iv p0, iv p1, iv p2, iv p3, iv p4, iv (2 : Int32), iv (1 : Int32), iv c0, iv c1, iv c2, iv c3, rv b1, rv b4, iv (own_val c0), iv (own_val c1), iv (own_val c2), .unset, .unset, .unset]) rfl k_) ?_
    refine own_stW (T' := T15) (g' := (mkF m 109 #[iv p0, iv p1, iv p2, iv p3, iv p4, iv (2 : Int32), iv (1 : Int32), iv c0, iv c1, iv c2, iv c3, rv b1, rv b4, iv (own_val c0), iv (own_val c1), iv (own_val c2), .unset, .unset, .unset] [(.int c3)])) (fun _ k_ => XS.iload X15.here hx rfl (hb hby at_107) rfl  k_) ?_
    obtain ⟨_, T16, L16, X16, hQ16, st16⟩ := own_callS X15 hx (y := own_m7) hown1 (mvT hZ1 (hw _ (List.mem_of_getElem? (i := 44) rfl))) (mvT hZ1 (hw _ (List.mem_of_getElem? (i := 45) rfl))) (mvT hZ1 (hw _ (List.mem_of_getElem? (i := 2) rfl))) (mvT hZ1 (hw _ (List.mem_of_getElem? (i := 46) rfl))) (by decide) (backOf (W := 0) (rm_val l Z a0 hw [] c3 T4.heap n0 f12) hZ1 (hw _ (List.mem_of_getElem? (i := 46) rfl)) (hw _ (List.mem_of_getElem? (i := 2) rfl)) (by decide) (by decide)) (g := (mkF m 109 #[iv p0, iv p1, iv p2, iv p3, iv p4, iv (2 : Int32), iv (1 : Int32), iv c0, iv c1, iv c2, iv c3, rv b1, rv b4, iv (own_val c0), iv (own_val c1), iv (own_val c2), .unset, .unset, .unset] [(.int c3)])) rfl (by rw [hml]; rfl) (argsL := [(.int c3)]) (rest := []) (lenOf pd__C_I rfl) rfl (by show 2 * 0 + _ ≤ _; exact Nat.le_of_eq rfl) (hb hby at_109) rfl eq15 (by decide) (by decide) (c' := 15) (s' := 285) rfl rfl
    obtain ⟨rfl, Nq16, eq16⟩ := hQ16
    have N16 := Fr.app N15 Nq16
    refine own_stW (T' := T16) (g' := (mkF m 112 #[iv p0, iv p1, iv p2, iv p3, iv p4, iv (2 : Int32), iv (1 : Int32), iv c0, iv c1, iv c2, iv c3, rv b1, rv b4, iv (own_val c0), iv (own_val c1), iv (own_val c2), .unset, .unset, .unset] [(.int (own_val c3))])) st16 ?_
    clear st16
    refine own_stW (T' := T16) (g' := (mkF m 114 #[iv p0, iv p1, iv p2, iv p3, iv p4, iv (2 : Int32), iv (1 : Int32), iv c0, iv c1, iv c2, iv c3, rv b1, rv b4, iv (own_val c0), iv (own_val c1), iv (own_val c2), iv (own_val c3), .unset, .unset] [])) (fun _ k_ => XS.istore X16.here hx rfl (hb hby at_112) rfl (l' := #[iv p0, iv p1, iv p2, iv p3, iv p4, iv (2 : Int32), iv (1 : Int32), iv c0, iv c1, iv c2, iv c3, rv b1, rv b4, iv (own_val c0), iv (own_val c1), iv (own_val c2), iv (own_val c3), .unset, .unset]) rfl k_) ?_
    refine own_stW (T' := T16) (g' := (mkF m 116 #[iv p0, iv p1, iv p2, iv p3, iv p4, iv (2 : Int32), iv (1 : Int32), iv c0, iv c1, iv c2, iv c3, rv b1, rv b4, iv (own_val c0), iv (own_val c1), iv (own_val c2), iv (own_val c3), .unset, .unset] [(.int (1 : Int32))])) (fun _ k_ => XS.iload X16.here hx rfl (hb hby at_114) rfl  k_) ?_
    refine own_stW (T' := T16) (g' := (mkF m 117 #[iv p0, iv p1, iv p2, iv p3, iv p4, iv (2 : Int32), iv (1 : Int32), iv c0, iv c1, iv c2, iv c3, rv b1, rv b4, iv (own_val c0), iv (own_val c1), iv (own_val c2), iv (own_val c3), .unset, .unset] [(.int (1 : Int32)), (.int (1 : Int32))])) (fun _ k_ => XS.iconst X16.here hx rfl (hb hby at_116) k_) ?_
    refine own_stW (T' := T16) (g' := (mkF m 120 #[iv p0, iv p1, iv p2, iv p3, iv p4, iv (2 : Int32), iv (1 : Int32), iv c0, iv c1, iv c2, iv c3, rv b1, rv b4, iv (own_val c0), iv (own_val c1), iv (own_val c2), iv (own_val c3), .unset, .unset] [])) (fun _ k_ => XS.icmpNo X16.here hx rfl (hb hby at_117) rfl (flt (by decide : ¬ ((1 : Int32) < (1 : Int32)))).1 k_) ?_
    refine own_stW (T' := T16) (g' := (mkF m 122 #[iv p0, iv p1, iv p2, iv p3, iv p4, iv (2 : Int32), iv (1 : Int32), iv c0, iv c1, iv c2, iv c3, rv b1, rv b4, iv (own_val c0), iv (own_val c1), iv (own_val c2), iv (own_val c3), .unset, .unset] [(.int (own_val c0))])) (fun _ k_ => XS.iload X16.here hx rfl (hb hby at_120) rfl  k_) ?_
    refine own_stW (T' := T16) (g' := (mkF m 125 #[iv p0, iv p1, iv p2, iv p3, iv p4, iv (2 : Int32), iv (1 : Int32), iv c0, iv c1, iv c2, iv c3, rv b1, rv b4, iv (own_val c0), iv (own_val c1), iv (own_val c2), iv (own_val c3), .unset, .unset] [])) (fun _ k_ => XS.ifNo X16.here hx rfl (hb hby at_122) rfl ((if0 _ _).trans (flt ((own_or hbad).1 : ¬ ((own_val c0) < (0 : Int32)))).1) k_) ?_
    refine own_stW (T' := T16) (g' := (mkF m 127 #[iv p0, iv p1, iv p2, iv p3, iv p4, iv (2 : Int32), iv (1 : Int32), iv c0, iv c1, iv c2, iv c3, rv b1, rv b4, iv (own_val c0), iv (own_val c1), iv (own_val c2), iv (own_val c3), .unset, .unset] [(.int (own_val c1))])) (fun _ k_ => XS.iload X16.here hx rfl (hb hby at_125) rfl  k_) ?_
    refine own_stW (T' := T16) (g' := (mkF m 130 #[iv p0, iv p1, iv p2, iv p3, iv p4, iv (2 : Int32), iv (1 : Int32), iv c0, iv c1, iv c2, iv c3, rv b1, rv b4, iv (own_val c0), iv (own_val c1), iv (own_val c2), iv (own_val c3), .unset, .unset] [])) (fun _ k_ => XS.ifNo X16.here hx rfl (hb hby at_127) rfl ((if0 _ _).trans (flt ((own_or hbad).2 : ¬ ((own_val c1) < (0 : Int32)))).1) k_) ?_
    refine own_stW (T' := T16) (g' := (mkF m 131 #[iv p0, iv p1, iv p2, iv p3, iv p4, iv (2 : Int32), iv (1 : Int32), iv c0, iv c1, iv c2, iv c3, rv b1, rv b4, iv (own_val c0), iv (own_val c1), iv (own_val c2), iv (own_val c3), .unset, .unset] [(.int (1 : Int32))])) (fun _ k_ => XS.iconst X16.here hx rfl (hb hby at_130) k_) ?_
    refine own_stW (T' := T16) (g' := (mkF m 135 #[iv p0, iv p1, iv p2, iv p3, iv p4, iv (2 : Int32), iv (1 : Int32), iv c0, iv c1, iv c2, iv c3, rv b1, rv b4, iv (own_val c0), iv (own_val c1), iv (own_val c2), iv (own_val c3), .unset, .unset] [(.int (1 : Int32))])) (fun _ k_ => XS.goto X16.here hx rfl (pc0 := 131) (pc' := 135) rfl (hb hby at_131) (by decide) (by decide) k_) ?_
    refine own_stW (T' := T16) (g' := (mkF m 137 #[iv p0, iv p1, iv p2, iv p3, iv p4, iv (2 : Int32), iv (1 : Int32), iv c0, iv c1, iv c2, iv c3, rv b1, rv b4, iv (own_val c0), iv (own_val c1), iv (own_val c2), iv (own_val c3), iv (1 : Int32), .unset] [])) (fun _ k_ => XS.istore X16.here hx rfl (hb hby at_135) rfl (l' := #[iv p0, iv p1, iv p2, iv p3, iv p4, iv (2 : Int32), iv (1 : Int32), iv c0, iv c1, iv c2, iv c3, rv b1, rv b4, iv (own_val c0), iv (own_val c1), iv (own_val c2), iv (own_val c3), iv (1 : Int32), .unset]) rfl k_) ?_
    refine own_stW (T' := T16) (g' := (mkF m 139 #[iv p0, iv p1, iv p2, iv p3, iv p4, iv (2 : Int32), iv (1 : Int32), iv c0, iv c1, iv c2, iv c3, rv b1, rv b4, iv (own_val c0), iv (own_val c1), iv (own_val c2), iv (own_val c3), iv (1 : Int32), .unset] [(.int (1 : Int32))])) (fun _ k_ => XS.iload X16.here hx rfl (hb hby at_137) rfl  k_) ?_
    refine own_stW (T' := T16) (g' := (mkF m 140 #[iv p0, iv p1, iv p2, iv p3, iv p4, iv (2 : Int32), iv (1 : Int32), iv c0, iv c1, iv c2, iv c3, rv b1, rv b4, iv (own_val c0), iv (own_val c1), iv (own_val c2), iv (own_val c3), iv (1 : Int32), .unset] [(.int (2 : Int32)), (.int (1 : Int32))])) (fun _ k_ => XS.iconst X16.here hx rfl (hb hby at_139) k_) ?_
    refine own_stW (T' := T16) (g' := (mkF m 153 #[iv p0, iv p1, iv p2, iv p3, iv p4, iv (2 : Int32), iv (1 : Int32), iv c0, iv c1, iv c2, iv c3, rv b1, rv b4, iv (own_val c0), iv (own_val c1), iv (own_val c2), iv (own_val c3), iv (1 : Int32), .unset] [])) (fun _ k_ => XS.icmpYes X16.here hx rfl (pc0 := 140) (pc' := 153) rfl (hb hby at_140) rfl (tlt (by decide : (1 : Int32) < (2 : Int32))).1 (by decide) (by decide) k_) ?_
    refine own_stW (T' := T16) (g' := (mkF m 154 #[iv p0, iv p1, iv p2, iv p3, iv p4, iv (2 : Int32), iv (1 : Int32), iv c0, iv c1, iv c2, iv c3, rv b1, rv b4, iv (own_val c0), iv (own_val c1), iv (own_val c2), iv (own_val c3), iv (1 : Int32), .unset] [(.int (1 : Int32))])) (fun _ k_ => XS.iconst X16.here hx rfl (hb hby at_153) k_) ?_
    refine own_stW (T' := T16) (g' := (mkF m 158 #[iv p0, iv p1, iv p2, iv p3, iv p4, iv (2 : Int32), iv (1 : Int32), iv c0, iv c1, iv c2, iv c3, rv b1, rv b4, iv (own_val c0), iv (own_val c1), iv (own_val c2), iv (own_val c3), iv (1 : Int32), .unset] [(.int (1 : Int32))])) (fun _ k_ => XS.goto X16.here hx rfl (pc0 := 154) (pc' := 158) rfl (hb hby at_154) (by decide) (by decide) k_) ?_
    refine own_stW (T' := T16) (g' := (mkF m 160 #[iv p0, iv p1, iv p2, iv p3, iv p4, iv (2 : Int32), iv (1 : Int32), iv c0, iv c1, iv c2, iv c3, rv b1, rv b4, iv (own_val c0), iv (own_val c1), iv (own_val c2), iv (own_val c3), iv (1 : Int32), iv (1 : Int32)] [])) (fun _ k_ => XS.istore X16.here hx rfl (hb hby at_158) rfl (l' := #[iv p0, iv p1, iv p2, iv p3, iv p4, iv (2 : Int32), iv (1 : Int32), iv c0, iv c1, iv c2, iv c3, rv b1, rv b4, iv (own_val c0), iv (own_val c1), iv (own_val c2), iv (own_val c3), iv (1 : Int32), iv (1 : Int32)]) rfl k_) ?_
    refine own_stW (T' := T16) (g' := (mkF m 162 #[iv p0, iv p1, iv p2, iv p3, iv p4, iv (2 : Int32), iv (1 : Int32), iv c0, iv c1, iv c2, iv c3, rv b1, rv b4, iv (own_val c0), iv (own_val c1), iv (own_val c2), iv (own_val c3), iv (1 : Int32), iv (1 : Int32)] [(.int (1 : Int32))])) (fun _ k_ => XS.iload X16.here hx rfl (hb hby at_160) rfl  k_) ?_
    refine own_stW (T' := T16) (g' := (mkF m 165 #[iv p0, iv p1, iv p2, iv p3, iv p4, iv (2 : Int32), iv (1 : Int32), iv c0, iv c1, iv c2, iv c3, rv b1, rv b4, iv (own_val c0), iv (own_val c1), iv (own_val c2), iv (own_val c3), iv (1 : Int32), iv (1 : Int32)] [])) (fun _ k_ => XS.ifNo X16.here hx rfl (hb hby at_162) rfl ((if0 _ _).trans (feq (by decide : ¬ ((1 : Int32) = (0 : Int32)))).1) k_) ?_
    refine own_stW (T' := T16) (g' := (mkF m 167 #[iv p0, iv p1, iv p2, iv p3, iv p4, iv (2 : Int32), iv (1 : Int32), iv c0, iv c1, iv c2, iv c3, rv b1, rv b4, iv (own_val c0), iv (own_val c1), iv (own_val c2), iv (own_val c3), iv (1 : Int32), iv (1 : Int32)] [(.int (1 : Int32))])) (fun _ k_ => XS.iload X16.here hx rfl (hb hby at_165) rfl  k_) ?_
    refine own_stW (T' := T16) (g' := (mkF m 181 #[iv p0, iv p1, iv p2, iv p3, iv p4, iv (2 : Int32), iv (1 : Int32), iv c0, iv c1, iv c2, iv c3, rv b1, rv b4, iv (own_val c0), iv (own_val c1), iv (own_val c2), iv (own_val c3), iv (1 : Int32), iv (1 : Int32)] [])) (fun _ k_ => XS.ifYes X16.here hx rfl (pc0 := 167) (pc' := 181) rfl (hb hby at_167) rfl ((if0 _ _).trans (feq (by decide : ¬ ((1 : Int32) = (0 : Int32)))).2) (by decide) (by decide) k_) ?_
    refine own_stW (T' := T16) (g' := (mkF m 183 #[iv p0, iv p1, iv p2, iv p3, iv p4, iv (2 : Int32), iv (1 : Int32), iv c0, iv c1, iv c2, iv c3, rv b1, rv b4, iv (own_val c0), iv (own_val c1), iv (own_val c2), iv (own_val c3), iv (1 : Int32), iv (1 : Int32)] [(.ref b4)])) (fun _ k_ => XS.aload X16.here hx rfl (hb hby at_181) rfl rfl  k_) ?_
    refine own_stW (T' := T16) (g' := (mkF m 186 #[iv p0, iv p1, iv p2, iv p3, iv p4, iv (2 : Int32), iv (1 : Int32), iv c0, iv c1, iv c2, iv c3, rv b1, rv b4, iv (own_val c0), iv (own_val c1), iv (own_val c2), iv (own_val c3), iv (1 : Int32), iv (1 : Int32)] [])) (fun _ k_ => XS.ifnullNo X16.here hx rfl (hb hby at_183) rfl k_) ?_
    refine own_stW (T' := T16) (g' := (mkF m 188 #[iv p0, iv p1, iv p2, iv p3, iv p4, iv (2 : Int32), iv (1 : Int32), iv c0, iv c1, iv c2, iv c3, rv b1, rv b4, iv (own_val c0), iv (own_val c1), iv (own_val c2), iv (own_val c3), iv (1 : Int32), iv (1 : Int32)] [(.ref b4)])) (fun _ k_ => XS.aload X16.here hx rfl (hb hby at_186) rfl rfl  k_) ?_
    obtain ⟨cl17, Ar17, -, S17, N17, -, -⟩ := id fr4
    refine own_stW (T' := T16) (g' := (mkF m 189 #[iv p0, iv p1, iv p2, iv p3, iv p4, iv (2 : Int32), iv (1 : Int32), iv c0, iv c1, iv c2, iv c3, rv b1, rv b4, iv (own_val c0), iv (own_val c1), iv (own_val c2), iv (own_val c3), iv (1 : Int32), iv (1 : Int32)] [(.int (1 : Int32))])) (fun t_ k_ => X16.arraylength hx (by rw [eq16]; exact Ar17.1) (State.isArrayOf_alike hZ1.alike Ar17.2.1) (g := (mkF m 188 #[iv p0, iv p1, iv p2, iv p3, iv p4, iv (2 : Int32), iv (1 : Int32), iv c0, iv c1, iv c2, iv c3, rv b1, rv b4, iv (own_val c0), iv (own_val c1), iv (own_val c2), iv (own_val c3), iv (1 : Int32), iv (1 : Int32)] [(.ref b4)])) rfl rfl (hb hby at_188) _ (by rw [len_of S17 N17]; exact k_)) ?_
    refine own_stW (T' := T16) (g' := (mkF m 191 #[iv p0, iv p1, iv p2, iv p3, iv p4, iv (2 : Int32), iv (1 : Int32), iv c0, iv c1, iv c2, iv c3, rv b1, rv b4, iv (own_val c0), iv (own_val c1), iv (own_val c2), iv (own_val c3), iv (1 : Int32), iv (1 : Int32)] [(.int (1 : Int32)), (.int (1 : Int32))])) (fun _ k_ => XS.iload X16.here hx rfl (hb hby at_189) rfl  k_) ?_
    refine own_stW (T' := T16) (g' := (mkF m 196 #[iv p0, iv p1, iv p2, iv p3, iv p4, iv (2 : Int32), iv (1 : Int32), iv c0, iv c1, iv c2, iv c3, rv b1, rv b4, iv (own_val c0), iv (own_val c1), iv (own_val c2), iv (own_val c3), iv (1 : Int32), iv (1 : Int32)] [])) (fun _ k_ => XS.icmpYes X16.here hx rfl (pc0 := 191) (pc' := 196) rfl (hb hby at_191) rfl (teq (rfl : (1 : Int32) = (1 : Int32))).1 (by decide) (by decide) k_) ?_
    refine own_stW (T' := T16) (g' := (mkF m 198 #[iv p0, iv p1, iv p2, iv p3, iv p4, iv (2 : Int32), iv (1 : Int32), iv c0, iv c1, iv c2, iv c3, rv b1, rv b4, iv (own_val c0), iv (own_val c1), iv (own_val c2), iv (own_val c3), iv (1 : Int32), iv (1 : Int32)] [(.int (1 : Int32))])) (fun _ k_ => XS.iload X16.here hx rfl (hb hby at_196) rfl  k_) ?_
    refine own_stW (T' := T16) (g' := (mkF m 199 #[iv p0, iv p1, iv p2, iv p3, iv p4, iv (2 : Int32), iv (1 : Int32), iv c0, iv c1, iv c2, iv c3, rv b1, rv b4, iv (own_val c0), iv (own_val c1), iv (own_val c2), iv (own_val c3), iv (1 : Int32), iv (1 : Int32)] [(.int (1 : Int32)), (.int (1 : Int32))])) (fun _ k_ => XS.iconst X16.here hx rfl (hb hby at_198) k_) ?_
    refine own_stW (T' := T16) (g' := (mkF m 202 #[iv p0, iv p1, iv p2, iv p3, iv p4, iv (2 : Int32), iv (1 : Int32), iv c0, iv c1, iv c2, iv c3, rv b1, rv b4, iv (own_val c0), iv (own_val c1), iv (own_val c2), iv (own_val c3), iv (1 : Int32), iv (1 : Int32)] [])) (fun _ k_ => XS.icmpNo X16.here hx rfl (hb hby at_199) rfl (flt (by decide : ¬ ((1 : Int32) < (1 : Int32)))).1 k_) ?_
    refine own_stW (T' := T16) (g' := (mkF m 204 #[iv p0, iv p1, iv p2, iv p3, iv p4, iv (2 : Int32), iv (1 : Int32), iv c0, iv c1, iv c2, iv c3, rv b1, rv b4, iv (own_val c0), iv (own_val c1), iv (own_val c2), iv (own_val c3), iv (1 : Int32), iv (1 : Int32)] [(.ref b4)])) (fun _ k_ => XS.aload X16.here hx rfl (hb hby at_202) rfl rfl  k_) ?_
    refine own_stW (T' := T16) (g' := (mkF m 205 #[iv p0, iv p1, iv p2, iv p3, iv p4, iv (2 : Int32), iv (1 : Int32), iv c0, iv c1, iv c2, iv c3, rv b1, rv b4, iv (own_val c0), iv (own_val c1), iv (own_val c2), iv (own_val c3), iv (1 : Int32), iv (1 : Int32)] [(.int (0 : Int32)), (.ref b4)])) (fun _ k_ => XS.iconst X16.here hx rfl (hb hby at_204) k_) ?_
    obtain ⟨cl18, Ar18, q18, S18, N18, H18, G18⟩ := id fr4
    have hin18 : ¬ ((0 : Int32) < 0 ∨ cl18.slots.size ≤ ((0 : Int32)).toNatClampNeg) := inb_of S18 ⟨by decide, by decide⟩
    refine own_stW (T' := T16) (g' := (mkF m 206 #[iv p0, iv p1, iv p2, iv p3, iv p4, iv (2 : Int32), iv (1 : Int32), iv c0, iv c1, iv c2, iv c3, rv b1, rv b4, iv (own_val c0), iv (own_val c1), iv (own_val c2), iv (own_val c3), iv (1 : Int32), iv (1 : Int32)] [(.int (((own_val c0 <<< ((4 : Int32) &&& 31)) ||| own_val c1).toInt8.toInt32))])) (X16.baloadBytes hx (j := (0 : Int32)) (v := (.int (((own_val c0 <<< ((4 : Int32) &&& 31)) ||| own_val c1).toInt8.toInt32))) (by rw [eq16]; exact Ar18.1) (State.isArrayOf_alike hZ1.alike Ar18.2.1) Ar18.2.2 hin18 (H18.at hin18 rfl) (g := (mkF m 205 #[iv p0, iv p1, iv p2, iv p3, iv p4, iv (2 : Int32), iv (1 : Int32), iv c0, iv c1, iv c2, iv c3, rv b1, rv b4, iv (own_val c0), iv (own_val c1), iv (own_val c2), iv (own_val c3), iv (1 : Int32), iv (1 : Int32)] [(.int (0 : Int32)), (.ref b4)])) rfl rfl (hb hby at_205)) ?_
    clear hin18 G18 H18 N18 S18 q18 Ar18 cl18
    refine own_stW (T' := T16) (g' := (mkF m 208 #[iv p0, iv p1, iv p2, iv p3, iv p4, iv (2 : Int32), iv (1 : Int32), iv c0, iv c1, iv c2, iv c3, rv b1, rv b4, iv (own_val c0), iv (own_val c1), iv (own_val c2), iv (own_val c3), iv (1 : Int32), iv (1 : Int32)] [(.int (own_val c0)), (.int (((own_val c0 <<< ((4 : Int32) &&& 31)) ||| own_val c1).toInt8.toInt32))])) (fun _ k_ => XS.iload X16.here hx rfl (hb hby at_206) rfl  k_) ?_
    refine own_stW (T' := T16) (g' := (mkF m 210 #[iv p0, iv p1, iv p2, iv p3, iv p4, iv (2 : Int32), iv (1 : Int32), iv c0, iv c1, iv c2, iv c3, rv b1, rv b4, iv (own_val c0), iv (own_val c1), iv (own_val c2), iv (own_val c3), iv (1 : Int32), iv (1 : Int32)] [(.int (16 : Int32)), (.int (own_val c0)), (.int (((own_val c0 <<< ((4 : Int32) &&& 31)) ||| own_val c1).toInt8.toInt32))])) (fun _ k_ => XS.bipush X16.here hx rfl (hb hby at_208) k_) ?_
    refine own_stW (T' := T16) (g' := (mkF m 211 #[iv p0, iv p1, iv p2, iv p3, iv p4, iv (2 : Int32), iv (1 : Int32), iv c0, iv c1, iv c2, iv c3, rv b1, rv b4, iv (own_val c0), iv (own_val c1), iv (own_val c2), iv (own_val c3), iv (1 : Int32), iv (1 : Int32)] [(.int ((own_val c0) * (16 : Int32))), (.int (((own_val c0 <<< ((4 : Int32) &&& 31)) ||| own_val c1).toInt8.toInt32))])) (fun _ k_ => XS.imul X16.here hx rfl (hb hby at_210) rfl k_) ?_
    refine own_stW (T' := T16) (g' := (mkF m 213 #[iv p0, iv p1, iv p2, iv p3, iv p4, iv (2 : Int32), iv (1 : Int32), iv c0, iv c1, iv c2, iv c3, rv b1, rv b4, iv (own_val c0), iv (own_val c1), iv (own_val c2), iv (own_val c3), iv (1 : Int32), iv (1 : Int32)] [(.int (own_val c1)), (.int ((own_val c0) * (16 : Int32))), (.int (((own_val c0 <<< ((4 : Int32) &&& 31)) ||| own_val c1).toInt8.toInt32))])) (fun _ k_ => XS.iload X16.here hx rfl (hb hby at_211) rfl  k_) ?_
    refine own_stW (T' := T16) (g' := (mkF m 214 #[iv p0, iv p1, iv p2, iv p3, iv p4, iv (2 : Int32), iv (1 : Int32), iv c0, iv c1, iv c2, iv c3, rv b1, rv b4, iv (own_val c0), iv (own_val c1), iv (own_val c2), iv (own_val c3), iv (1 : Int32), iv (1 : Int32)] [(.int (((own_val c0) * (16 : Int32)) + (own_val c1))), (.int (((own_val c0 <<< ((4 : Int32) &&& 31)) ||| own_val c1).toInt8.toInt32))])) (fun _ k_ => XS.iadd X16.here hx rfl (hb hby at_213) rfl k_) ?_
    refine own_stW (T' := T16) (g' := (mkF m 215 #[iv p0, iv p1, iv p2, iv p3, iv p4, iv (2 : Int32), iv (1 : Int32), iv c0, iv c1, iv c2, iv c3, rv b1, rv b4, iv (own_val c0), iv (own_val c1), iv (own_val c2), iv (own_val c3), iv (1 : Int32), iv (1 : Int32)] [(.int ((((own_val c0) * (16 : Int32)) + (own_val c1)).toInt8.toInt32)), (.int (((own_val c0 <<< ((4 : Int32) &&& 31)) ||| own_val c1).toInt8.toInt32))])) (fun _ k_ => XS.i2b X16.here hx rfl (hb hby at_214) rfl k_) ?_
    refine own_stW (T' := T16) (g' := (mkF m 220 #[iv p0, iv p1, iv p2, iv p3, iv p4, iv (2 : Int32), iv (1 : Int32), iv c0, iv c1, iv c2, iv c3, rv b1, rv b4, iv (own_val c0), iv (own_val c1), iv (own_val c2), iv (own_val c3), iv (1 : Int32), iv (1 : Int32)] [])) (fun _ k_ => XS.icmpYes X16.here hx rfl (pc0 := 215) (pc' := 220) rfl (hb hby at_215) rfl (teq ((own_hexb (own_or hbad).1 (own_or hbad).2) : (((own_val c0 <<< ((4 : Int32) &&& 31)) ||| own_val c1).toInt8.toInt32) = ((((own_val c0) * (16 : Int32)) + (own_val c1)).toInt8.toInt32))).1 (by decide) (by decide) k_) ?_
    refine own_stW (T' := T16) (g' := (mkF m 222 #[iv p0, iv p1, iv p2, iv p3, iv p4, iv (2 : Int32), iv (1 : Int32), iv c0, iv c1, iv c2, iv c3, rv b1, rv b4, iv (own_val c0), iv (own_val c1), iv (own_val c2), iv (own_val c3), iv (1 : Int32), iv (1 : Int32)] [(.int (1 : Int32))])) (fun _ k_ => XS.iload X16.here hx rfl (hb hby at_220) rfl  k_) ?_
    refine own_stW (T' := T16) (g' := (mkF m 223 #[iv p0, iv p1, iv p2, iv p3, iv p4, iv (2 : Int32), iv (1 : Int32), iv c0, iv c1, iv c2, iv c3, rv b1, rv b4, iv (own_val c0), iv (own_val c1), iv (own_val c2), iv (own_val c3), iv (1 : Int32), iv (1 : Int32)] [(.int (2 : Int32)), (.int (1 : Int32))])) (fun _ k_ => XS.iconst X16.here hx rfl (hb hby at_222) k_) ?_
    refine own_stW (T' := T16) (g' := (mkF m 244 #[iv p0, iv p1, iv p2, iv p3, iv p4, iv (2 : Int32), iv (1 : Int32), iv c0, iv c1, iv c2, iv c3, rv b1, rv b4, iv (own_val c0), iv (own_val c1), iv (own_val c2), iv (own_val c3), iv (1 : Int32), iv (1 : Int32)] [])) (fun _ k_ => XS.icmpYes X16.here hx rfl (pc0 := 223) (pc' := 244) rfl (hb hby at_223) rfl (tlt (by decide : (1 : Int32) < (2 : Int32))).1 (by decide) (by decide) k_) ?_
    refine own_stW (T' := T16) (g' := (mkF m 245 #[iv p0, iv p1, iv p2, iv p3, iv p4, iv (2 : Int32), iv (1 : Int32), iv c0, iv c1, iv c2, iv c3, rv b1, rv b4, iv (own_val c0), iv (own_val c1), iv (own_val c2), iv (own_val c3), iv (1 : Int32), iv (1 : Int32)] [(.int (1 : Int32))])) (fun _ k_ => XS.iconst X16.here hx rfl (hb hby at_244) k_) ?_
    exact own_retNW X16 hZ1 hS1 (by rw [eq16]; exact (Nat.le_trans (Nat.le_refl _) K4.1)) hEL (by rw [eq16]; exact CR5) hx (t := .boolean) hret (by simp) hlk (hb hby at_245) (by decide) (by decide) ⟨rfl, N16⟩
set_option maxRecDepth 65536 in
set_option maxHeartbeats 40000000 in
theorem seg_t2 {p : Program} {l : Launch} {e : Env} {s : State} {m : MethodId} {args : Array Value} {below : List Frame} {meth : Method} {c : Code} {T0 : State} {locs : List Loc} {Z : State} {a0 : Array Value} {vm0 : Vm} {k0 : Nat} (h0 : Heap) (hB : Heap) (n0 : Nat) (p0 : Int32) (p1 : Int32) (p2 : Int32) (p3 : Int32) (p4 : Int32) (c0 : Int32) (c1 : Int32) (c2 : Int32) (c3 : Int32) (cz : Int32) (fm : Value) (hv_ : Addr) (clV : Cell)
    (X0 : Stand p l e room_1 (s.setVm vm0) m args below meth c T0 locs 8 272) (hx : p.tables.exec = Jvm.exec) (hZs : Z.Warmed39 s.vm) (hZ : Z.Warmed39 (s.setVm vm0).vm) (hS0 : s.Since vm0 k0) (hk0 : k0 ≤ hB.size) (CR0 : CHr Z consts_1 s.vm h0 vm0 hB) (hw : ∀ d ∈ tables_1, d.before a0 Z = true) (hby : c.code = code) (hml : c.maxLocals = 19) (howns : s.vm.findClass "com/example/vouchsafe/vouchsafe/DigestsReadHexPinLaw" = some m.cls) (hown : (s.setVm vm0).vm.findClass "com/example/vouchsafe/vouchsafe/DigestsReadHexPinLaw" = some m.cls) (hnm : meth.name = "law") (hret : meth.sig.returnType = some .boolean) (hlk : meth.locks = false) (e0 : T0.heap = hB) (N0 : Fr n0 locs) (O0 : Old Z n0 hB) (hr0 : ¬ c0 < 0 ∧ ¬ (255 : Int32) < c0) (hr1 : ¬ c1 < 0 ∧ ¬ (255 : Int32) < c1) (hr2 : ¬ c2 < 0 ∧ ¬ (255 : Int32) < c2) (hr3 : ¬ c3 < 0 ∧ ¬ (255 : Int32) < c3) (SC : Sta Z Z.heap "java/lang/String" "COMPACT_STRINGS" "Z" (.int cz)) (hcz : ¬ cz = (0 : Int32)) (SF : Sta Z Z.heap "jdk/internal/util/Preconditions" "SIOOBE_FORMATTER" "Ljava/util/function/BiFunction;" fm) (hfm : fm.isRef = true) (SV : Sta Z Z.heap "com/example/vouchsafe/vouchsafe/Digests" "HEX_VALUES" "[B" (.ref hv_)) (HV : own_HV Z hv_ clV) :
    own_W p e below s room_1.cells room_1.slots Z consts_1 h0 (own_L n0) T0 (mkF m 42 #[iv p0, iv p1, iv p2, iv p3, iv p4, iv (4 : Int32), iv (2 : Int32), iv c0, iv c1, iv c2, iv c3, .unset, .unset, .unset, .unset, .unset, .unset, .unset, .unset] []) := by
  have hEL := own_EW hw
  refine own_stW (T' := T0) (g' := (mkF m 44 #[iv p0, iv p1, iv p2, iv p3, iv p4, iv (4 : Int32), iv (2 : Int32), iv c0, iv c1, iv c2, iv c3, .unset, .unset, .unset, .unset, .unset, .unset, .unset, .unset] [(.int (4 : Int32))])) (fun _ k_ => XS.iload X0.here hx rfl (hb hby at_42) rfl  k_) ?_
  refine own_stW (T' := T0) (g' := (mkF m 46 #[iv p0, iv p1, iv p2, iv p3, iv p4, iv (4 : Int32), iv (2 : Int32), iv c0, iv c1, iv c2, iv c3, .unset, .unset, .unset, .unset, .unset, .unset, .unset, .unset] [(.int c0), (.int (4 : Int32))])) (fun _ k_ => XS.iload X0.here hx rfl (hb hby at_44) rfl  k_) ?_
  refine own_stW (T' := T0) (g' := (mkF m 48 #[iv p0, iv p1, iv p2, iv p3, iv p4, iv (4 : Int32), iv (2 : Int32), iv c0, iv c1, iv c2, iv c3, .unset, .unset, .unset, .unset, .unset, .unset, .unset, .unset] [(.int c1), (.int c0), (.int (4 : Int32))])) (fun _ k_ => XS.iload X0.here hx rfl (hb hby at_46) rfl  k_) ?_
  refine own_stW (T' := T0) (g' := (mkF m 50 #[iv p0, iv p1, iv p2, iv p3, iv p4, iv (4 : Int32), iv (2 : Int32), iv c0, iv c1, iv c2, iv c3, .unset, .unset, .unset, .unset, .unset, .unset, .unset, .unset] [(.int c2), (.int c1), (.int c0), (.int (4 : Int32))])) (fun _ k_ => XS.iload X0.here hx rfl (hb hby at_48) rfl  k_) ?_
  refine own_stW (T' := T0) (g' := (mkF m 52 #[iv p0, iv p1, iv p2, iv p3, iv p4, iv (4 : Int32), iv (2 : Int32), iv c0, iv c1, iv c2, iv c3, .unset, .unset, .unset, .unset, .unset, .unset, .unset, .unset] [(.int c3), (.int c2), (.int c1), (.int c0), (.int (4 : Int32))])) (fun _ k_ => XS.iload X0.here hx rfl (hb hby at_50) rfl  k_) ?_
  obtain ⟨_, T1, L1, X1, hS1, hQ1, ch1, st1⟩ := own_callSW X0 hx (y := own_m9) hown (mvT hZ (hw _ (List.mem_of_getElem? (i := 4) rfl))) (mvT hZ (hw _ (List.mem_of_getElem? (i := 5) rfl))) (mvT hZ (hw _ (List.mem_of_getElem? (i := 2) rfl))) (mvT hZ (hw _ (List.mem_of_getElem? (i := 6) rfl))) (by decide) (own_backW (W := 0) (rm_text l Z a0 hw [] (4 : Int32) c0 c1 c2 c3 cz hB n0 O0 SC hcz hr0 hr1 hr2 hr3) hZ (hw _ (List.mem_of_getElem? (i := 6) rfl)) (hw _ (List.mem_of_getElem? (i := 2) rfl)) (by decide) (by decide) hEL CR0.1 sf0 all0) (g := (mkF m 52 #[iv p0, iv p1, iv p2, iv p3, iv p4, iv (4 : Int32), iv (2 : Int32), iv c0, iv c1, iv c2, iv c3, .unset, .unset, .unset, .unset, .unset, .unset, .unset, .unset] [(.int c3), (.int c2), (.int c1), (.int c0), (.int (4 : Int32))])) rfl (by rw [hml]; rfl) (argsL := [(.int (4 : Int32)), (.int c0), (.int c1), (.int c2), (.int c3)]) (rest := []) (lenOf pd__ICCCC_Ljava_lang_String_ rfl) rfl (by show 2 * 0 + _ ≤ _; exact Nat.le_of_eq rfl) (hb hby at_52) rfl e0 (by decide) (by decide) (c' := 14) (s' := 284) rfl rfl hS0 hk0
  obtain ⟨b1, t1, kb1, rfl, Nq1, K1, fq1_0, fq1_1, fq1_2, fq1_3, xq1_fresh_b⟩ := hQ1
  have N1 := Fr.app N0 Nq1
  have CR2 : CHr Z consts_1 s.vm h0 T1.vm T1.heap := CR0.trans ch1
  have hZ1 : Z.Warmed39 (s.setVm T1.vm).vm := own_hZ hZs hS1
  have hown1 : (s.setVm T1.vm).vm.findClass "com/example/vouchsafe/vouchsafe/DigestsReadHexPinLaw" = some m.cls := own_hown howns hS1
  refine own_stW (T' := T1) (g' := (mkF m 55 #[iv p0, iv p1, iv p2, iv p3, iv p4, iv (4 : Int32), iv (2 : Int32), iv c0, iv c1, iv c2, iv c3, .unset, .unset, .unset, .unset, .unset, .unset, .unset, .unset] [(.ref b1)])) st1 ?_
  clear st1
  have ft1 : Arv Z T1.heap t1 kb1 .byte (4 : Int32) [(.int (c0.toInt8.toInt32)), (.int (c1.toInt8.toInt32)), (.int (c2.toInt8.toInt32)), (.int (c3.toInt8.toInt32))] (.int (0 : Int32)) := fq1_3
  refine own_stW (T' := T1) (g' := (mkF m 57 #[iv p0, iv p1, iv p2, iv p3, iv p4, iv (4 : Int32), iv (2 : Int32), iv c0, iv c1, iv c2, iv c3, rv b1, .unset, .unset, .unset, .unset, .unset, .unset, .unset] [])) (fun _ k_ => XS.astore X1.here hx rfl (hb hby at_55) rfl rfl (l' := #[iv p0, iv p1, iv p2, iv p3, iv p4, iv (4 : Int32), iv (2 : Int32), iv c0, iv c1, iv c2, iv c3, rv b1, .unset, .unset, .unset, .unset, .unset, .unset, .unset]) rfl k_) ?_
  refine own_stW (T' := T1) (g' := (mkF m 59 #[iv p0, iv p1, iv p2, iv p3, iv p4, iv (4 : Int32), iv (2 : Int32), iv c0, iv c1, iv c2, iv c3, rv b1, .unset, .unset, .unset, .unset, .unset, .unset, .unset] [(.ref b1)])) (fun _ k_ => XS.aload X1.here hx rfl (hb hby at_57) rfl rfl  k_) ?_
  refine own_stW (T' := T1) (g' := (mkF m 61 #[iv p0, iv p1, iv p2, iv p3, iv p4, iv (4 : Int32), iv (2 : Int32), iv c0, iv c1, iv c2, iv c3, rv b1, .unset, .unset, .unset, .unset, .unset, .unset, .unset] [(.int (2 : Int32)), (.ref b1)])) (fun _ k_ => XS.iload X1.here hx rfl (hb hby at_59) rfl  k_) ?_
  have f3 : Old Z n0 T1.heap := O0.keep K1 all0
  obtain ⟨_, T4, L4, X4, hQ4, st4⟩ := own_callS X1 hx (y := own_m11) hown1 (mvT hZ1 (hw _ (List.mem_of_getElem? (i := 29) rfl))) (mvT hZ1 (hw _ (List.mem_of_getElem? (i := 30) rfl))) (mvT hZ1 (hw _ (List.mem_of_getElem? (i := 31) rfl))) (mvT hZ1 (hw _ (List.mem_of_getElem? (i := 32) rfl))) (by decide) (backOf (W := 0) (rm_rh2 l Z a0 hw [] b1 t1 kb1 c0 c1 c2 c3 cz fm hv_ clV T1.heap n0 f3 fq1_0 fq1_2 fq1_1 ft1 hr0 hr1 hr2 hr3 SC hcz SF hfm SV HV) hZ1 (hw _ (List.mem_of_getElem? (i := 32) rfl)) (hw _ (List.mem_of_getElem? (i := 31) rfl)) (by decide) (by decide)) (g := (mkF m 61 #[iv p0, iv p1, iv p2, iv p3, iv p4, iv (4 : Int32), iv (2 : Int32), iv c0, iv c1, iv c2, iv c3, rv b1, .unset, .unset, .unset, .unset, .unset, .unset, .unset] [(.int (2 : Int32)), (.ref b1)])) rfl (by rw [hml]; rfl) (argsL := [(.ref b1), (.int (2 : Int32))]) (rest := []) (lenOf pd__Ljava_lang_String_I__B rfl) rfl (by show 2 * 0 + _ ≤ _; exact Nat.le_of_eq rfl) (hb hby at_61) rfl rfl (by decide) (by decide) (c' := 15) (s' := 286) rfl rfl
  obtain ⟨r4, b4, kb4, rfl, Nq4, K4, xq4_nul, xq4_ok⟩ := hQ4
  have N4 := Fr.app N1 Nq4
  have CR5 : CHr Z consts_1 s.vm h0 T1.vm T4.heap := CR2.trans (CHr.keep K4 sf0 CR2.1)
  refine own_stW (T' := T4) (g' := (mkF m 64 #[iv p0, iv p1, iv p2, iv p3, iv p4, iv (4 : Int32), iv (2 : Int32), iv c0, iv c1, iv c2, iv c3, rv b1, .unset, .unset, .unset, .unset, .unset, .unset, .unset] [r4])) st4 ?_
  clear st4
  by_cases hbad : ((own_val c0 ||| own_val c1) < 0) ∨ ((own_val c2 ||| own_val c3) < 0)
  · obtain rfl : r4 = .null := xq4_nul hbad
    rcases hbad with hbad | hbad
    · refine own_stW (T' := T4) (g' := (mkF m 66 #[iv p0, iv p1, iv p2, iv p3, iv p4, iv (4 : Int32), iv (2 : Int32), iv c0, iv c1, iv c2, iv c3, rv b1, .val .null, .unset, .unset, .unset, .unset, .unset, .unset] [])) (fun _ k_ => XS.astore X4.here hx rfl (hb hby at_64) rfl rfl (l' := #[iv p0, iv p1, iv p2, iv p3, iv p4, iv (4 : Int32), iv (2 : Int32), iv c0, iv c1, iv c2, iv c3, rv b1, .val .null, .unset, .unset, .unset, .unset, .unset, .unset]) rfl k_) ?_
      refine own_stW (T' := T4) (g' := (mkF m 68 #[iv p0, iv p1, iv p2, iv p3, iv p4, iv (4 : Int32), iv (2 : Int32), iv c0, iv c1, iv c2, iv c3, rv b1, .val .null, .unset, .unset, .unset, .unset, .unset, .unset] [(.int (4 : Int32))])) (fun _ k_ => XS.iload X4.here hx rfl (hb hby at_66) rfl  k_) ?_
      refine own_stW (T' := T4) (g' := (mkF m 69 #[iv p0, iv p1, iv p2, iv p3, iv p4, iv (4 : Int32), iv (2 : Int32), iv c0, iv c1, iv c2, iv c3, rv b1, .val .null, .unset, .unset, .unset, .unset, .unset, .unset] [(.int (2 : Int32)), (.int (4 : Int32))])) (fun _ k_ => XS.iconst X4.here hx rfl (hb hby at_68) k_) ?_
      refine own_stW (T' := T4) (g' := (mkF m 71 #[iv p0, iv p1, iv p2, iv p3, iv p4, iv (4 : Int32), iv (2 : Int32), iv c0, iv c1, iv c2, iv c3, rv b1, .val .null, .unset, .unset, .unset, .unset, .unset, .unset] [(.int (2 : Int32)), (.int (2 : Int32)), (.int (4 : Int32))])) (fun _ k_ => XS.iload X4.here hx rfl (hb hby at_69) rfl  k_) ?_
      refine own_stW (T' := T4) (g' := (mkF m 72 #[iv p0, iv p1, iv p2, iv p3, iv p4, iv (4 : Int32), iv (2 : Int32), iv c0, iv c1, iv c2, iv c3, rv b1, .val .null, .unset, .unset, .unset, .unset, .unset, .unset] [(.int (4 : Int32)), (.int (4 : Int32))])) (fun _ k_ => XS.imul X4.here hx rfl (hb hby at_71) rfl k_) ?_
      refine own_stW (T' := T4) (g' := (mkF m 86 #[iv p0, iv p1, iv p2, iv p3, iv p4, iv (4 : Int32), iv (2 : Int32), iv c0, iv c1, iv c2, iv c3, rv b1, .val .null, .unset, .unset, .unset, .unset, .unset, .unset] [])) (fun _ k_ => XS.icmpYes X4.here hx rfl (pc0 := 72) (pc' := 86) rfl (hb hby at_72) rfl (teq (rfl : (4 : Int32) = (4 : Int32))).1 (by decide) (by decide) k_) ?_
      refine own_stW (T' := T4) (g' := (mkF m 88 #[iv p0, iv p1, iv p2, iv p3, iv p4, iv (4 : Int32), iv (2 : Int32), iv c0, iv c1, iv c2, iv c3, rv b1, .val .null, .unset, .unset, .unset, .unset, .unset, .unset] [(.int c0)])) (fun _ k_ => XS.iload X4.here hx rfl (hb hby at_86) rfl  k_) ?_
      have f6 : Old Z n0 T4.heap := f3.keep K4 all0
      obtain ⟨_, T7, L7, X7, hQ7, st7⟩ := own_callS X4 hx (y := own_m7) hown1 (mvT hZ1 (hw _ (List.mem_of_getElem? (i := 44) rfl))) (mvT hZ1 (hw _ (List.mem_of_getElem? (i := 45) rfl))) (mvT hZ1 (hw _ (List.mem_of_getElem? (i := 2) rfl))) (mvT hZ1 (hw _ (List.mem_of_getElem? (i := 46) rfl))) (by decide) (backOf (W := 0) (rm_val l Z a0 hw [] c0 T4.heap n0 f6) hZ1 (hw _ (List.mem_of_getElem? (i := 46) rfl)) (hw _ (List.mem_of_getElem? (i := 2) rfl)) (by decide) (by decide)) (g := (mkF m 88 #[iv p0, iv p1, iv p2, iv p3, iv p4, iv (4 : Int32), iv (2 : Int32), iv c0, iv c1, iv c2, iv c3, rv b1, .val .null, .unset, .unset, .unset, .unset, .unset, .unset] [(.int c0)])) rfl (by rw [hml]; rfl) (argsL := [(.int c0)]) (rest := []) (lenOf pd__C_I rfl) rfl (by show 2 * 0 + _ ≤ _; exact Nat.le_of_eq rfl) (hb hby at_88) rfl rfl (by decide) (by decide) (c' := 15) (s' := 286) rfl rfl
      obtain ⟨rfl, Nq7, eq7⟩ := hQ7
      have N7 := Fr.app N4 Nq7
      refine own_stW (T' := T7) (g' := (mkF m 91 #[iv p0, iv p1, iv p2, iv p3, iv p4, iv (4 : Int32), iv (2 : Int32), iv c0, iv c1, iv c2, iv c3, rv b1, .val .null, .unset, .unset, .unset, .unset, .unset, .unset] [(.int (own_val c0))])) st7 ?_
      clear st7
      refine own_stW (T' := T7) (g' := (mkF m 93 #[iv p0, iv p1, iv p2, iv p3, iv p4, iv (4 : Int32), iv (2 : Int32), iv c0, iv c1, iv c2, iv c3, rv b1, .val .null, iv (own_val c0), .unset, .unset, .unset, .unset, .unset] [])) (fun _ k_ => XS.istore X7.here hx rfl (hb hby at_91) rfl (l' := #[iv p0, iv p1, iv p2, iv p3, iv p4, iv (4 : Int32), iv (2 : Int32), iv c0, iv c1, iv c2, iv c3, rv b1, .val .null, iv (own_val c0), .unset, .unset, .unset, .unset, .unset]) rfl k_) ?_
      refine own_stW (T' := T7) (g' := (mkF m 95 #[iv p0, iv p1, iv p2, iv p3, iv p4, iv (4 : Int32), iv (2 : Int32), iv c0, iv c1, iv c2, iv c3, rv b1, .val .null, iv (own_val c0), .unset, .unset, .unset, .unset, .unset] [(.int c1)])) (fun _ k_ => XS.iload X7.here hx rfl (hb hby at_93) rfl  k_) ?_
      obtain ⟨_, T8, L8, X8, hQ8, st8⟩ := own_callS X7 hx (y := own_m7) hown1 (mvT hZ1 (hw _ (List.mem_of_getElem? (i := 44) rfl))) (mvT hZ1 (hw _ (List.mem_of_getElem? (i := 45) rfl))) (mvT hZ1 (hw _ (List.mem_of_getElem? (i := 2) rfl))) (mvT hZ1 (hw _ (List.mem_of_getElem? (i := 46) rfl))) (by decide) (backOf (W := 0) (rm_val l Z a0 hw [] c1 T4.heap n0 f6) hZ1 (hw _ (List.mem_of_getElem? (i := 46) rfl)) (hw _ (List.mem_of_getElem? (i := 2) rfl)) (by decide) (by decide)) (g := (mkF m 95 #[iv p0, iv p1, iv p2, iv p3, iv p4, iv (4 : Int32), iv (2 : Int32), iv c0, iv c1, iv c2, iv c3, rv b1, .val .null, iv (own_val c0), .unset, .unset, .unset, .unset, .unset] [(.int c1)])) rfl (by rw [hml]; rfl) (argsL := [(.int c1)]) (rest := []) (lenOf pd__C_I rfl) rfl (by show 2 * 0 + _ ≤ _; exact Nat.le_of_eq rfl) (hb hby at_95) rfl eq7 (by decide) (by decide) (c' := 15) (s' := 286) rfl rfl
      obtain ⟨rfl, Nq8, eq8⟩ := hQ8
      have N8 := Fr.app N7 Nq8
      refine own_stW (T' := T8) (g' := (mkF m 98 #[iv p0, iv p1, iv p2, iv p3, iv p4, iv (4 : Int32), iv (2 : Int32), iv c0, iv c1, iv c2, iv c3, rv b1, .val .null, iv (own_val c0), .unset, .unset, .unset, .unset, .unset] [(.int (own_val c1))])) st8 ?_
      clear st8
      refine own_stW (T' := T8) (g' := (mkF m 100 #[iv p0, iv p1, iv p2, iv p3, iv p4, iv (4 : Int32), iv (2 : Int32), iv c0, iv c1, iv c2, iv c3, rv b1, .val .null, iv (own_val c0), iv (own_val c1), .unset, .unset, .unset, .unset] [])) (fun _ k_ => XS.istore X8.here hx rfl (hb hby at_98) rfl (l' := #[iv p0, iv p1, iv p2, iv p3, iv p4, iv (4 : Int32), iv (2 : Int32), iv c0, iv c1, iv c2, iv c3, rv b1, .val .null, iv (own_val c0), iv (own_val c1), .unset, .unset, .unset, .unset]) rfl k_) ?_
      refine own_stW (T' := T8) (g' := (mkF m 102 #[iv p0, iv p1, iv p2, iv p3, iv p4, iv (4 : Int32), iv (2 : Int32), iv c0, iv c1, iv c2, iv c3, rv b1, .val .null, iv (own_val c0), iv (own_val c1), .unset, .unset, .unset, .unset] [(.int c2)])) (fun _ k_ => XS.iload X8.here hx rfl (hb hby at_100) rfl  k_) ?_
      obtain ⟨_, T9, L9, X9, hQ9, st9⟩ := own_callS X8 hx (y := own_m7) hown1 (mvT hZ1 (hw _ (List.mem_of_getElem? (i := 44) rfl))) (mvT hZ1 (hw _ (List.mem_of_getElem? (i := 45) rfl))) (mvT hZ1 (hw _ (List.mem_of_getElem? (i := 2) rfl))) (mvT hZ1 (hw _ (List.mem_of_getElem? (i := 46) rfl))) (by decide) (backOf (W := 0) (rm_val l Z a0 hw [] c2 T4.heap n0 f6) hZ1 (hw _ (List.mem_of_getElem? (i := 46) rfl)) (hw _ (List.mem_of_getElem? (i := 2) rfl)) (by decide) (by decide)) (g := (mkF m 102 #[iv p0, iv p1, iv p2, iv p3, iv p4, iv (4 : Int32), iv (2 : Int32), iv c0, iv c1, iv c2, iv c3, rv b1, .val .null, iv (own_val c0), iv (own_val c1), .unset, .unset, .unset, .unset] [(.int c2)])) rfl (by rw [hml]; rfl) (argsL := [(.int c2)]) (rest := []) (lenOf pd__C_I rfl) rfl (by show 2 * 0 + _ ≤ _; exact Nat.le_of_eq rfl) (hb hby at_102) rfl eq8 (by decide) (by decide) (c' := 15) (s' := 286) rfl rfl
      obtain ⟨rfl, Nq9, eq9⟩ := hQ9
      have N9 := Fr.app N8 Nq9
      refine own_stW (T' := T9) (g' := (mkF m 105 #[iv p0, iv p1, iv p2, iv p3, iv p4, iv (4 : Int32), iv (2 : Int32), iv c0, iv c1, iv c2, iv c3, rv b1, .val .null, iv (own_val c0), iv (own_val c1), .unset, .unset, .unset, .unset] [(.int (own_val c2))])) st9 ?_
      clear st9
      refine own_stW (T' := T9) (g' := (mkF m 107 #[iv p0, iv p1, iv p2, iv p3, iv p4, iv (4 : Int32), iv (2 : Int32), iv c0, iv c1, iv c2, iv c3, rv b1, .val .null, iv (own_val c0), iv (own_val c1), iv (own_val c2), .unset, .unset, .unset] [])) (fun _ k_ => XS.istore X9.here hx rfl (hb hby at_105) rfl (l' := #[iv p0, iv p1, iv p2, iv p3, iv p4, iv (4 : Int32), iv (2 : Int32), iv c0, iv c1, iv c2, iv c3, rv b1, .val .null, iv (own_val c0), iv (own_val c1), iv (own_val c2), .unset, .unset, .unset]) rfl k_) ?_
      refine own_stW (T' := T9) (g' := (mkF m 109 #[iv p0, iv p1, iv p2, iv p3, iv p4, iv (4 : Int32), iv (2 : Int32), iv c0, iv c1, iv c2, iv c3, rv b1, .val .null, iv (own_val c0), iv (own_val c1), iv (own_val c2), .unset, .unset, .unset] [(.int c3)])) (fun _ k_ => XS.iload X9.here hx rfl (hb hby at_107) rfl  k_) ?_
      obtain ⟨_, T10, L10, X10, hQ10, st10⟩ := own_callS X9 hx (y := own_m7) hown1 (mvT hZ1 (hw _ (List.mem_of_getElem? (i := 44) rfl))) (mvT hZ1 (hw _ (List.mem_of_getElem? (i := 45) rfl))) (mvT hZ1 (hw _ (List.mem_of_getElem? (i := 2) rfl))) (mvT hZ1 (hw _ (List.mem_of_getElem? (i := 46) rfl))) (by decide) (backOf (W := 0) (rm_val l Z a0 hw [] c3 T4.heap n0 f6) hZ1 (hw _ (List.mem_of_getElem? (i := 46) rfl)) (hw _ (List.mem_of_getElem? (i := 2) rfl)) (by decide) (by decide)) (g := (mkF m 109 #[iv p0, iv p1, iv p2, iv p3, iv p4, iv (4 : Int32), iv (2 : Int32), iv c0, iv c1, iv c2, iv c3, rv b1, .val .null, iv (own_val c0), iv (own_val c1), iv (own_val c2), .unset, .unset, .unset] [(.int c3)])) rfl (by rw [hml]; rfl) (argsL := [(.int c3)]) (rest := []) (lenOf pd__C_I rfl) rfl (by show 2 * 0 + _ ≤ _; exact Nat.le_of_eq rfl) (hb hby at_109) rfl eq9 (by decide) (by decide) (c' := 15) (s' := 286) rfl rfl
      obtain ⟨rfl, Nq10, eq10⟩ := hQ10
      have N10 := Fr.app N9 Nq10
      refine own_stW (T' := T10) (g' := (mkF m 112 #[iv p0, iv p1, iv p2, iv p3, iv p4, iv (4 : Int32), iv (2 : Int32), iv c0, iv c1, iv c2, iv c3, rv b1, .val .null, iv (own_val c0), iv (own_val c1), iv (own_val c2), .unset, .unset, .unset] [(.int (own_val c3))])) st10 ?_
      clear st10
      refine own_stW (T' := T10) (g' := (mkF m 114 #[iv p0, iv p1, iv p2, iv p3, iv p4, iv (4 : Int32), iv (2 : Int32), iv c0, iv c1, iv c2, iv c3, rv b1, .val .null, iv (own_val c0), iv (own_val c1), iv (own_val c2), iv (own_val c3), .unset, .unset] [])) (fun _ k_ => XS.istore X10.here hx rfl (hb hby at_112) rfl (l' := #[iv p0, iv p1, iv p2, iv p3, iv p4, iv (4 : Int32), iv (2 : Int32), iv c0, iv c1, iv c2, iv c3, rv b1, .val .null, iv (own_val c0), iv (own_val c1), iv (own_val c2), iv (own_val c3), .unset, .unset]) rfl k_) ?_
      refine own_stW (T' := T10) (g' := (mkF m 116 #[iv p0, iv p1, iv p2, iv p3, iv p4, iv (4 : Int32), iv (2 : Int32), iv c0, iv c1, iv c2, iv c3, rv b1, .val .null, iv (own_val c0), iv (own_val c1), iv (own_val c2), iv (own_val c3), .unset, .unset] [(.int (2 : Int32))])) (fun _ k_ => XS.iload X10.here hx rfl (hb hby at_114) rfl  k_) ?_
      refine own_stW (T' := T10) (g' := (mkF m 117 #[iv p0, iv p1, iv p2, iv p3, iv p4, iv (4 : Int32), iv (2 : Int32), iv c0, iv c1, iv c2, iv c3, rv b1, .val .null, iv (own_val c0), iv (own_val c1), iv (own_val c2), iv (own_val c3), .unset, .unset] [(.int (1 : Int32)), (.int (2 : Int32))])) (fun _ k_ => XS.iconst X10.here hx rfl (hb hby at_116) k_) ?_
      refine own_stW (T' := T10) (g' := (mkF m 120 #[iv p0, iv p1, iv p2, iv p3, iv p4, iv (4 : Int32), iv (2 : Int32), iv c0, iv c1, iv c2, iv c3, rv b1, .val .null, iv (own_val c0), iv (own_val c1), iv (own_val c2), iv (own_val c3), .unset, .unset] [])) (fun _ k_ => XS.icmpNo X10.here hx rfl (hb hby at_117) rfl (flt (by decide : ¬ ((2 : Int32) < (1 : Int32)))).1 k_) ?_
      refine own_stW (T' := T10) (g' := (mkF m 122 #[iv p0, iv p1, iv p2, iv p3, iv p4, iv (4 : Int32), iv (2 : Int32), iv c0, iv c1, iv c2, iv c3, rv b1, .val .null, iv (own_val c0), iv (own_val c1), iv (own_val c2), iv (own_val c3), .unset, .unset] [(.int (own_val c0))])) (fun _ k_ => XS.iload X10.here hx rfl (hb hby at_120) rfl  k_) ?_
      by_cases hc11 : (own_val c0) < (0 : Int32)
      · refine own_stW (T' := T10) (g' := (mkF m 134 #[iv p0, iv p1, iv p2, iv p3, iv p4, iv (4 : Int32), iv (2 : Int32), iv c0, iv c1, iv c2, iv c3, rv b1, .val .null, iv (own_val c0), iv (own_val c1), iv (own_val c2), iv (own_val c3), .unset, .unset] [])) (fun _ k_ => XS.ifYes X10.here hx rfl (pc0 := 122) (pc' := 134) rfl (hb hby at_122) rfl ((if0 _ _).trans (tlt hc11).1) (by decide) (by decide) k_) ?_
        refine own_stW (T' := T10) (g' := (mkF m 135 #[iv p0, iv p1, iv p2, iv p3, iv p4, iv (4 : Int32), iv (2 : Int32), iv c0, iv c1, iv c2, iv c3, rv b1, .val .null, iv (own_val c0), iv (own_val c1), iv (own_val c2), iv (own_val c3), .unset, .unset] [(.int (0 : Int32))])) (fun _ k_ => XS.iconst X10.here hx rfl (hb hby at_134) k_) ?_
        refine own_stW (T' := T10) (g' := (mkF m 137 #[iv p0, iv p1, iv p2, iv p3, iv p4, iv (4 : Int32), iv (2 : Int32), iv c0, iv c1, iv c2, iv c3, rv b1, .val .null, iv (own_val c0), iv (own_val c1), iv (own_val c2), iv (own_val c3), iv (0 : Int32), .unset] [])) (fun _ k_ => XS.istore X10.here hx rfl (hb hby at_135) rfl (l' := #[iv p0, iv p1, iv p2, iv p3, iv p4, iv (4 : Int32), iv (2 : Int32), iv c0, iv c1, iv c2, iv c3, rv b1, .val .null, iv (own_val c0), iv (own_val c1), iv (own_val c2), iv (own_val c3), iv (0 : Int32), .unset]) rfl k_) ?_
        refine own_stW (T' := T10) (g' := (mkF m 139 #[iv p0, iv p1, iv p2, iv p3, iv p4, iv (4 : Int32), iv (2 : Int32), iv c0, iv c1, iv c2, iv c3, rv b1, .val .null, iv (own_val c0), iv (own_val c1), iv (own_val c2), iv (own_val c3), iv (0 : Int32), .unset] [(.int (2 : Int32))])) (fun _ k_ => XS.iload X10.here hx rfl (hb hby at_137) rfl  k_) ?_
        refine own_stW (T' := T10) (g' := (mkF m 140 #[iv p0, iv p1, iv p2, iv p3, iv p4, iv (4 : Int32), iv (2 : Int32), iv c0, iv c1, iv c2, iv c3, rv b1, .val .null, iv (own_val c0), iv (own_val c1), iv (own_val c2), iv (own_val c3), iv (0 : Int32), .unset] [(.int (2 : Int32)), (.int (2 : Int32))])) (fun _ k_ => XS.iconst X10.here hx rfl (hb hby at_139) k_) ?_
        refine own_stW (T' := T10) (g' := (mkF m 143 #[iv p0, iv p1, iv p2, iv p3, iv p4, iv (4 : Int32), iv (2 : Int32), iv c0, iv c1, iv c2, iv c3, rv b1, .val .null, iv (own_val c0), iv (own_val c1), iv (own_val c2), iv (own_val c3), iv (0 : Int32), .unset] [])) (fun _ k_ => XS.icmpNo X10.here hx rfl (hb hby at_140) rfl (flt (by decide : ¬ ((2 : Int32) < (2 : Int32)))).1 k_) ?_
        refine own_stW (T' := T10) (g' := (mkF m 145 #[iv p0, iv p1, iv p2, iv p3, iv p4, iv (4 : Int32), iv (2 : Int32), iv c0, iv c1, iv c2, iv c3, rv b1, .val .null, iv (own_val c0), iv (own_val c1), iv (own_val c2), iv (own_val c3), iv (0 : Int32), .unset] [(.int (own_val c2))])) (fun _ k_ => XS.iload X10.here hx rfl (hb hby at_143) rfl  k_) ?_
        by_cases hc12 : (own_val c2) < (0 : Int32)
        · refine own_stW (T' := T10) (g' := (mkF m 157 #[iv p0, iv p1, iv p2, iv p3, iv p4, iv (4 : Int32), iv (2 : Int32), iv c0, iv c1, iv c2, iv c3, rv b1, .val .null, iv (own_val c0), iv (own_val c1), iv (own_val c2), iv (own_val c3), iv (0 : Int32), .unset] [])) (fun _ k_ => XS.ifYes X10.here hx rfl (pc0 := 145) (pc' := 157) rfl (hb hby at_145) rfl ((if0 _ _).trans (tlt hc12).1) (by decide) (by decide) k_) ?_
          refine own_stW (T' := T10) (g' := (mkF m 158 #[iv p0, iv p1, iv p2, iv p3, iv p4, iv (4 : Int32), iv (2 : Int32), iv c0, iv c1, iv c2, iv c3, rv b1, .val .null, iv (own_val c0), iv (own_val c1), iv (own_val c2), iv (own_val c3), iv (0 : Int32), .unset] [(.int (0 : Int32))])) (fun _ k_ => XS.iconst X10.here hx rfl (hb hby at_157) k_) ?_
          refine own_stW (T' := T10) (g' := (mkF m 160 #[iv p0, iv p1, iv p2, iv p3, iv p4, iv (4 : Int32), iv (2 : Int32), iv c0, iv c1, iv c2, iv c3, rv b1, .val .null, iv (own_val c0), iv (own_val c1), iv (own_val c2), iv (own_val c3), iv (0 : Int32), iv (0 : Int32)] [])) (fun _ k_ => XS.istore X10.here hx rfl (hb hby at_158) rfl (l' := #[iv p0, iv p1, iv p2, iv p3, iv p4, iv (4 : Int32), iv (2 : Int32), iv c0, iv c1, iv c2, iv c3, rv b1, .val .null, iv (own_val c0), iv (own_val c1), iv (own_val c2), iv (own_val c3), iv (0 : Int32), iv (0 : Int32)]) rfl k_) ?_
          refine own_stW (T' := T10) (g' := (mkF m 162 #[iv p0, iv p1, iv p2, iv p3, iv p4, iv (4 : Int32), iv (2 : Int32), iv c0, iv c1, iv c2, iv c3, rv b1, .val .null, iv (own_val c0), iv (own_val c1), iv (own_val c2), iv (own_val c3), iv (0 : Int32), iv (0 : Int32)] [(.int (0 : Int32))])) (fun _ k_ => XS.iload X10.here hx rfl (hb hby at_160) rfl  k_) ?_
          refine own_stW (T' := T10) (g' := (mkF m 170 #[iv p0, iv p1, iv p2, iv p3, iv p4, iv (4 : Int32), iv (2 : Int32), iv c0, iv c1, iv c2, iv c3, rv b1, .val .null, iv (own_val c0), iv (own_val c1), iv (own_val c2), iv (own_val c3), iv (0 : Int32), iv (0 : Int32)] [])) (fun _ k_ => XS.ifYes X10.here hx rfl (pc0 := 162) (pc' := 170) rfl (hb hby at_162) rfl ((if0 _ _).trans (teq (rfl : (0 : Int32) = (0 : Int32))).1) (by decide) (by decide) k_) ?_
          refine own_stW (T' := T10) (g' := (mkF m 172 #[iv p0, iv p1, iv p2, iv p3, iv p4, iv (4 : Int32), iv (2 : Int32), iv c0, iv c1, iv c2, iv c3, rv b1, .val .null, iv (own_val c0), iv (own_val c1), iv (own_val c2), iv (own_val c3), iv (0 : Int32), iv (0 : Int32)] [.null])) (fun _ k_ => XS.aload X10.here hx rfl (hb hby at_170) rfl rfl  k_) ?_
          refine own_stW (T' := T10) (g' := (mkF m 175 #[iv p0, iv p1, iv p2, iv p3, iv p4, iv (4 : Int32), iv (2 : Int32), iv c0, iv c1, iv c2, iv c3, rv b1, .val .null, iv (own_val c0), iv (own_val c1), iv (own_val c2), iv (own_val c3), iv (0 : Int32), iv (0 : Int32)] [])) (fun _ k_ => XS.ifnonnullNo X10.here hx rfl (hb hby at_172) rfl k_) ?_
          refine own_stW (T' := T10) (g' := (mkF m 176 #[iv p0, iv p1, iv p2, iv p3, iv p4, iv (4 : Int32), iv (2 : Int32), iv c0, iv c1, iv c2, iv c3, rv b1, .val .null, iv (own_val c0), iv (own_val c1), iv (own_val c2), iv (own_val c3), iv (0 : Int32), iv (0 : Int32)] [(.int (1 : Int32))])) (fun _ k_ => XS.iconst X10.here hx rfl (hb hby at_175) k_) ?_
          refine own_stW (T' := T10) (g' := (mkF m 180 #[iv p0, iv p1, iv p2, iv p3, iv p4, iv (4 : Int32), iv (2 : Int32), iv c0, iv c1, iv c2, iv c3, rv b1, .val .null, iv (own_val c0), iv (own_val c1), iv (own_val c2), iv (own_val c3), iv (0 : Int32), iv (0 : Int32)] [(.int (1 : Int32))])) (fun _ k_ => XS.goto X10.here hx rfl (pc0 := 176) (pc' := 180) rfl (hb hby at_176) (by decide) (by decide) k_) ?_
          exact own_retNW X10 hZ1 hS1 (by rw [eq10]; exact (Nat.le_trans (Nat.le_refl _) K4.1)) hEL (by rw [eq10]; exact CR5) hx (t := .boolean) hret (by simp) hlk (hb hby at_180) (by decide) (by decide) ⟨rfl, N10⟩
        · refine own_stW (T' := T10) (g' := (mkF m 148 #[iv p0, iv p1, iv p2, iv p3, iv p4, iv (4 : Int32), iv (2 : Int32), iv c0, iv c1, iv c2, iv c3, rv b1, .val .null, iv (own_val c0), iv (own_val c1), iv (own_val c2), iv (own_val c3), iv (0 : Int32), .unset] [])) (fun _ k_ => XS.ifNo X10.here hx rfl (hb hby at_145) rfl ((if0 _ _).trans (flt hc12).1) k_) ?_
          refine own_stW (T' := T10) (g' := (mkF m 150 #[iv p0, iv p1, iv p2, iv p3, iv p4, iv (4 : Int32), iv (2 : Int32), iv c0, iv c1, iv c2, iv c3, rv b1, .val .null, iv (own_val c0), iv (own_val c1), iv (own_val c2), iv (own_val c3), iv (0 : Int32), .unset] [(.int (own_val c3))])) (fun _ k_ => XS.iload X10.here hx rfl (hb hby at_148) rfl  k_) ?_
          by_cases hc13 : (own_val c3) < (0 : Int32)
          · refine own_stW (T' := T10) (g' := (mkF m 157 #[iv p0, iv p1, iv p2, iv p3, iv p4, iv (4 : Int32), iv (2 : Int32), iv c0, iv c1, iv c2, iv c3, rv b1, .val .null, iv (own_val c0), iv (own_val c1), iv (own_val c2), iv (own_val c3), iv (0 : Int32), .unset] [])) (fun _ k_ => XS.ifYes X10.here hx rfl (pc0 := 150) (pc' := 157) rfl (hb hby at_150) rfl ((if0 _ _).trans (tlt hc13).1) (by decide) (by decide) k_) ?_
            refine own_stW (T' := T10) (g' := (mkF m 158 #[iv p0, iv p1, iv p2, iv p3, iv p4, iv (4 : Int32), iv (2 : Int32), iv c0, iv c1, iv c2, iv c3, rv b1, .val .null, iv (own_val c0), iv (own_val c1), iv (own_val c2), iv (own_val c3), iv (0 : Int32), .unset] [(.int (0 : Int32))])) (fun _ k_ => XS.iconst X10.here hx rfl (hb hby at_157) k_) ?_
            refine own_stW (T' := T10) (g' := (mkF m 160 #[iv p0, iv p1, iv p2, iv p3, iv p4, iv (4 : Int32), iv (2 : Int32), iv c0, iv c1, iv c2, iv c3, rv b1, .val .null, iv (own_val c0), iv (own_val c1), iv (own_val c2), iv (own_val c3), iv (0 : Int32), iv (0 : Int32)] [])) (fun _ k_ => XS.istore X10.here hx rfl (hb hby at_158) rfl (l' := #[iv p0, iv p1, iv p2, iv p3, iv p4, iv (4 : Int32), iv (2 : Int32), iv c0, iv c1, iv c2, iv c3, rv b1, .val .null, iv (own_val c0), iv (own_val c1), iv (own_val c2), iv (own_val c3), iv (0 : Int32), iv (0 : Int32)]) rfl k_) ?_
            refine own_stW (T' := T10) (g' := (mkF m 162 #[iv p0, iv p1, iv p2, iv p3, iv p4, iv (4 : Int32), iv (2 : Int32), iv c0, iv c1, iv c2, iv c3, rv b1, .val .null, iv (own_val c0), iv (own_val c1), iv (own_val c2), iv (own_val c3), iv (0 : Int32), iv (0 : Int32)] [(.int (0 : Int32))])) (fun _ k_ => XS.iload X10.here hx rfl (hb hby at_160) rfl  k_) ?_
            refine own_stW (T' := T10) (g' := (mkF m 170 #[iv p0, iv p1, iv p2, iv p3, iv p4, iv (4 : Int32), iv (2 : Int32), iv c0, iv c1, iv c2, iv c3, rv b1, .val .null, iv (own_val c0), iv (own_val c1), iv (own_val c2), iv (own_val c3), iv (0 : Int32), iv (0 : Int32)] [])) (fun _ k_ => XS.ifYes X10.here hx rfl (pc0 := 162) (pc' := 170) rfl (hb hby at_162) rfl ((if0 _ _).trans (teq (rfl : (0 : Int32) = (0 : Int32))).1) (by decide) (by decide) k_) ?_
            refine own_stW (T' := T10) (g' := (mkF m 172 #[iv p0, iv p1, iv p2, iv p3, iv p4, iv (4 : Int32), iv (2 : Int32), iv c0, iv c1, iv c2, iv c3, rv b1, .val .null, iv (own_val c0), iv (own_val c1), iv (own_val c2), iv (own_val c3), iv (0 : Int32), iv (0 : Int32)] [.null])) (fun _ k_ => XS.aload X10.here hx rfl (hb hby at_170) rfl rfl  k_) ?_
            refine own_stW (T' := T10) (g' := (mkF m 175 #[iv p0, iv p1, iv p2, iv p3, iv p4, iv (4 : Int32), iv (2 : Int32), iv c0, iv c1, iv c2, iv c3, rv b1, .val .null, iv (own_val c0), iv (own_val c1), iv (own_val c2), iv (own_val c3), iv (0 : Int32), iv (0 : Int32)] [])) (fun _ k_ => XS.ifnonnullNo X10.here hx rfl (hb hby at_172) rfl k_) ?_
            refine own_stW (T' := T10) (g' := (mkF m 176 #[iv p0, iv p1, iv p2, iv p3, iv p4, iv (4 : Int32), iv (2 : Int32), iv c0, iv c1, iv c2, iv c3, rv b1, .val .null, iv (own_val c0), iv (own_val c1), iv (own_val c2), iv (own_val c3), iv (0 : Int32), iv (0 : Int32)] [(.int (1 : Int32))])) (fun _ k_ => XS.iconst X10.here hx rfl (hb hby at_175) k_) ?_
            refine own_stW (T' := T10) (g' := (mkF m 180 #[iv p0, iv p1, iv p2, iv p3, iv p4, iv (4 : Int32), iv (2 : Int32), iv c0, iv c1, iv c2, iv c3, rv b1, .val .null, iv (own_val c0), iv (own_val c1), iv (own_val c2), iv (own_val c3), iv (0 : Int32), iv (0 : Int32)] [(.int (1 : Int32))])) (fun _ k_ => XS.goto X10.here hx rfl (pc0 := 176) (pc' := 180) rfl (hb hby at_176) (by decide) (by decide) k_) ?_
            exact own_retNW X10 hZ1 hS1 (by rw [eq10]; exact (Nat.le_trans (Nat.le_refl _) K4.1)) hEL (by rw [eq10]; exact CR5) hx (t := .boolean) hret (by simp) hlk (hb hby at_180) (by decide) (by decide) ⟨rfl, N10⟩
          · refine own_stW (T' := T10) (g' := (mkF m 153 #[iv p0, iv p1, iv p2, iv p3, iv p4, iv (4 : Int32), iv (2 : Int32), iv c0, iv c1, iv c2, iv c3, rv b1, .val .null, iv (own_val c0), iv (own_val c1), iv (own_val c2), iv (own_val c3), iv (0 : Int32), .unset] [])) (fun _ k_ => XS.ifNo X10.here hx rfl (hb hby at_150) rfl ((if0 _ _).trans (flt hc13).1) k_) ?_
            refine own_stW (T' := T10) (g' := (mkF m 154 #[iv p0, iv p1, iv p2, iv p3, iv p4, iv (4 : Int32), iv (2 : Int32), iv c0, iv c1, iv c2, iv c3, rv b1, .val .null, iv (own_val c0), iv (own_val c1), iv (own_val c2), iv (own_val c3), iv (0 : Int32), .unset] [(.int (1 : Int32))])) (fun _ k_ => XS.iconst X10.here hx rfl (hb hby at_153) k_) ?_
            refine own_stW (T' := T10) (g' := (mkF m 158 #[iv p0, iv p1, iv p2, iv p3, iv p4, iv (4 : Int32), iv (2 : Int32), iv c0, iv c1, iv c2, iv c3, rv b1, .val .null, iv (own_val c0), iv (own_val c1), iv (own_val c2), iv (own_val c3), iv (0 : Int32), .unset] [(.int (1 : Int32))])) (fun _ k_ => XS.goto X10.here hx rfl (pc0 := 154) (pc' := 158) rfl (hb hby at_154) (by decide) (by decide) k_) ?_
            refine own_stW (T' := T10) (g' := (mkF m 160 #[iv p0, iv p1, iv p2, iv p3, iv p4, iv (4 : Int32), iv (2 : Int32), iv c0, iv c1, iv c2, iv c3, rv b1, .val .null, iv (own_val c0), iv (own_val c1), iv (own_val c2), iv (own_val c3), iv (0 : Int32), iv (1 : Int32)] [])) (fun _ k_ => XS.istore X10.here hx rfl (hb hby at_158) rfl (l' := #[iv p0, iv p1, iv p2, iv p3, iv p4, iv (4 : Int32), iv (2 : Int32), iv c0, iv c1, iv c2, iv c3, rv b1, .val .null, iv (own_val c0), iv (own_val c1), iv (own_val c2), iv (own_val c3), iv (0 : Int32), iv (1 : Int32)]) rfl k_) ?_
            refine own_stW (T' := T10) (g' := (mkF m 162 #[iv p0, iv p1, iv p2, iv p3, iv p4, iv (4 : Int32), iv (2 : Int32), iv c0, iv c1, iv c2, iv c3, rv b1, .val .null, iv (own_val c0), iv (own_val c1), iv (own_val c2), iv (own_val c3), iv (0 : Int32), iv (1 : Int32)] [(.int (0 : Int32))])) (fun _ k_ => XS.iload X10.here hx rfl (hb hby at_160) rfl  k_) ?_
            refine own_stW (T' := T10) (g' := (mkF m 170 #[iv p0, iv p1, iv p2, iv p3, iv p4, iv (4 : Int32), iv (2 : Int32), iv c0, iv c1, iv c2, iv c3, rv b1, .val .null, iv (own_val c0), iv (own_val c1), iv (own_val c2), iv (own_val c3), iv (0 : Int32), iv (1 : Int32)] [])) (fun _ k_ => XS.ifYes X10.here hx rfl (pc0 := 162) (pc' := 170) rfl (hb hby at_162) rfl ((if0 _ _).trans (teq (rfl : (0 : Int32) = (0 : Int32))).1) (by decide) (by decide) k_) ?_
            refine own_stW (T' := T10) (g' := (mkF m 172 #[iv p0, iv p1, iv p2, iv p3, iv p4, iv (4 : Int32), iv (2 : Int32), iv c0, iv c1, iv c2, iv c3, rv b1, .val .null, iv (own_val c0), iv (own_val c1), iv (own_val c2), iv (own_val c3), iv (0 : Int32), iv (1 : Int32)] [.null])) (fun _ k_ => XS.aload X10.here hx rfl (hb hby at_170) rfl rfl  k_) ?_
            refine own_stW (T' := T10) (g' := (mkF m 175 #[iv p0, iv p1, iv p2, iv p3, iv p4, iv (4 : Int32), iv (2 : Int32), iv c0, iv c1, iv c2, iv c3, rv b1, .val .null, iv (own_val c0), iv (own_val c1), iv (own_val c2), iv (own_val c3), iv (0 : Int32), iv (1 : Int32)] [])) (fun _ k_ => XS.ifnonnullNo X10.here hx rfl (hb hby at_172) rfl k_) ?_
            refine own_stW (T' := T10) (g' := (mkF m 176 #[iv p0, iv p1, iv p2, iv p3, iv p4, iv (4 : Int32), iv (2 : Int32), iv c0, iv c1, iv c2, iv c3, rv b1, .val .null, iv (own_val c0), iv (own_val c1), iv (own_val c2), iv (own_val c3), iv (0 : Int32), iv (1 : Int32)] [(.int (1 : Int32))])) (fun _ k_ => XS.iconst X10.here hx rfl (hb hby at_175) k_) ?_
            refine own_stW (T' := T10) (g' := (mkF m 180 #[iv p0, iv p1, iv p2, iv p3, iv p4, iv (4 : Int32), iv (2 : Int32), iv c0, iv c1, iv c2, iv c3, rv b1, .val .null, iv (own_val c0), iv (own_val c1), iv (own_val c2), iv (own_val c3), iv (0 : Int32), iv (1 : Int32)] [(.int (1 : Int32))])) (fun _ k_ => XS.goto X10.here hx rfl (pc0 := 176) (pc' := 180) rfl (hb hby at_176) (by decide) (by decide) k_) ?_
            exact own_retNW X10 hZ1 hS1 (by rw [eq10]; exact (Nat.le_trans (Nat.le_refl _) K4.1)) hEL (by rw [eq10]; exact CR5) hx (t := .boolean) hret (by simp) hlk (hb hby at_180) (by decide) (by decide) ⟨rfl, N10⟩
      · refine own_stW (T' := T10) (g' := (mkF m 125 #[iv p0, iv p1, iv p2, iv p3, iv p4, iv (4 : Int32), iv (2 : Int32), iv c0, iv c1, iv c2, iv c3, rv b1, .val .null, iv (own_val c0), iv (own_val c1), iv (own_val c2), iv (own_val c3), .unset, .unset] [])) (fun _ k_ => XS.ifNo X10.here hx rfl (hb hby at_122) rfl ((if0 _ _).trans (flt hc11).1) k_) ?_
        refine own_stW (T' := T10) (g' := (mkF m 127 #[iv p0, iv p1, iv p2, iv p3, iv p4, iv (4 : Int32), iv (2 : Int32), iv c0, iv c1, iv c2, iv c3, rv b1, .val .null, iv (own_val c0), iv (own_val c1), iv (own_val c2), iv (own_val c3), .unset, .unset] [(.int (own_val c1))])) (fun _ k_ => XS.iload X10.here hx rfl (hb hby at_125) rfl  k_) ?_
        refine own_stW (T' := T10) (g' := (mkF m 134 #[iv p0, iv p1, iv p2, iv p3, iv p4, iv (4 : Int32), iv (2 : Int32), iv c0, iv c1, iv c2, iv c3, rv b1, .val .null, iv (own_val c0), iv (own_val c1), iv (own_val c2), iv (own_val c3), .unset, .unset] [])) (fun _ k_ => XS.ifYes X10.here hx rfl (pc0 := 127) (pc' := 134) rfl (hb hby at_127) rfl ((if0 _ _).trans (tlt ((own_or2 hbad hc11) : (own_val c1) < (0 : Int32))).1) (by decide) (by decide) k_) ?_
        refine own_stW (T' := T10) (g' := (mkF m 135 #[iv p0, iv p1, iv p2, iv p3, iv p4, iv (4 : Int32), iv (2 : Int32), iv c0, iv c1, iv c2, iv c3, rv b1, .val .null, iv (own_val c0), iv (own_val c1), iv (own_val c2), iv (own_val c3), .unset, .unset] [(.int (0 : Int32))])) (fun _ k_ => XS.iconst X10.here hx rfl (hb hby at_134) k_) ?_
        refine own_stW (T' := T10) (g' := (mkF m 137 #[iv p0, iv p1, iv p2, iv p3, iv p4, iv (4 : Int32), iv (2 : Int32), iv c0, iv c1, iv c2, iv c3, rv b1, .val .null, iv (own_val c0), iv (own_val c1), iv (own_val c2), iv (own_val c3), iv (0 : Int32), .unset] [])) (fun _ k_ => XS.istore X10.here hx rfl (hb hby at_135) rfl (l' := #[iv p0, iv p1, iv p2, iv p3, iv p4, iv (4 : Int32), iv (2 : Int32), iv c0, iv c1, iv c2, iv c3, rv b1, .val .null, iv (own_val c0), iv (own_val c1), iv (own_val c2), iv (own_val c3), iv (0 : Int32), .unset]) rfl k_) ?_
        refine own_stW (T' := T10) (g' := (mkF m 139 #[iv p0, iv p1, iv p2, iv p3, iv p4, iv (4 : Int32), iv (2 : Int32), iv c0, iv c1, iv c2, iv c3, rv b1, .val .null, iv (own_val c0), iv (own_val c1), iv (own_val c2), iv (own_val c3), iv (0 : Int32), .unset] [(.int (2 : Int32))])) (fun _ k_ => XS.iload X10.here hx rfl (hb hby at_137) rfl  k_) ?_
        refine own_stW (T' := T10) (g' := (mkF m 140 #[iv p0, iv p1, iv p2, iv p3, iv p4, iv (4 : Int32), iv (2 : Int32), iv c0, iv c1, iv c2, iv c3, rv b1, .val .null, iv (own_val c0), iv (own_val c1), iv (own_val c2), iv (own_val c3), iv (0 : Int32), .unset] [(.int (2 : Int32)), (.int (2 : Int32))])) (fun _ k_ => XS.iconst X10.here hx rfl (hb hby at_139) k_) ?_
        refine own_stW (T' := T10) (g' := (mkF m 143 #[iv p0, iv p1, iv p2, iv p3, iv p4, iv (4 : Int32), iv (2 : Int32), iv c0, iv c1, iv c2, iv c3, rv b1, .val .null, iv (own_val c0), iv (own_val c1), iv (own_val c2), iv (own_val c3), iv (0 : Int32), .unset] [])) (fun _ k_ => XS.icmpNo X10.here hx rfl (hb hby at_140) rfl (flt (by decide : ¬ ((2 : Int32) < (2 : Int32)))).1 k_) ?_
        refine own_stW (T' := T10) (g' := (mkF m 145 #[iv p0, iv p1, iv p2, iv p3, iv p4, iv (4 : Int32), iv (2 : Int32), iv c0, iv c1, iv c2, iv c3, rv b1, .val .null, iv (own_val c0), iv (own_val c1), iv (own_val c2), iv (own_val c3), iv (0 : Int32), .unset] [(.int (own_val c2))])) (fun _ k_ => XS.iload X10.here hx rfl (hb hby at_143) rfl  k_) ?_
        by_cases hc14 : (own_val c2) < (0 : Int32)
        · refine own_stW (T' := T10) (g' := (mkF m 157 #[iv p0, iv p1, iv p2, iv p3, iv p4, iv (4 : Int32), iv (2 : Int32), iv c0, iv c1, iv c2, iv c3, rv b1, .val .null, iv (own_val c0), iv (own_val c1), iv (own_val c2), iv (own_val c3), iv (0 : Int32), .unset] [])) (fun _ k_ => XS.ifYes X10.here hx rfl (pc0 := 145) (pc' := 157) rfl (hb hby at_145) rfl ((if0 _ _).trans (tlt hc14).1) (by decide) (by decide) k_) ?_
          refine own_stW (T' := T10) (g' := (mkF m 158 #[iv p0, iv p1, iv p2, iv p3, iv p4, iv (4 : Int32), iv (2 : Int32), iv c0, iv c1, iv c2, iv c3, rv b1, .val .null, iv (own_val c0), iv (own_val c1), iv (own_val c2), iv (own_val c3), iv (0 : Int32), .unset] [(.int (0 : Int32))])) (fun _ k_ => XS.iconst X10.here hx rfl (hb hby at_157) k_) ?_
          refine own_stW (T' := T10) (g' := (mkF m 160 #[iv p0, iv p1, iv p2, iv p3, iv p4, iv (4 : Int32), iv (2 : Int32), iv c0, iv c1, iv c2, iv c3, rv b1, .val .null, iv (own_val c0), iv (own_val c1), iv (own_val c2), iv (own_val c3), iv (0 : Int32), iv (0 : Int32)] [])) (fun _ k_ => XS.istore X10.here hx rfl (hb hby at_158) rfl (l' := #[iv p0, iv p1, iv p2, iv p3, iv p4, iv (4 : Int32), iv (2 : Int32), iv c0, iv c1, iv c2, iv c3, rv b1, .val .null, iv (own_val c0), iv (own_val c1), iv (own_val c2), iv (own_val c3), iv (0 : Int32), iv (0 : Int32)]) rfl k_) ?_
          refine own_stW (T' := T10) (g' := (mkF m 162 #[iv p0, iv p1, iv p2, iv p3, iv p4, iv (4 : Int32), iv (2 : Int32), iv c0, iv c1, iv c2, iv c3, rv b1, .val .null, iv (own_val c0), iv (own_val c1), iv (own_val c2), iv (own_val c3), iv (0 : Int32), iv (0 : Int32)] [(.int (0 : Int32))])) (fun _ k_ => XS.iload X10.here hx rfl (hb hby at_160) rfl  k_) ?_
          refine own_stW (T' := T10) (g' := (mkF m 170 #[iv p0, iv p1, iv p2, iv p3, iv p4, iv (4 : Int32), iv (2 : Int32), iv c0, iv c1, iv c2, iv c3, rv b1, .val .null, iv (own_val c0), iv (own_val c1), iv (own_val c2), iv (own_val c3), iv (0 : Int32), iv (0 : Int32)] [])) (fun _ k_ => XS.ifYes X10.here hx rfl (pc0 := 162) (pc' := 170) rfl (hb hby at_162) rfl ((if0 _ _).trans (teq (rfl : (0 : Int32) = (0 : Int32))).1) (by decide) (by decide) k_) ?_
          refine own_stW (T' := T10) (g' := (mkF m 172 #[iv p0, iv p1, iv p2, iv p3, iv p4, iv (4 : Int32), iv (2 : Int32), iv c0, iv c1, iv c2, iv c3, rv b1, .val .null, iv (own_val c0), iv (own_val c1), iv (own_val c2), iv (own_val c3), iv (0 : Int32), iv (0 : Int32)] [.null])) (fun _ k_ => XS.aload X10.here hx rfl (hb hby at_170) rfl rfl  k_) ?_
          refine own_stW (T' := T10) (g' := (mkF m 175 #[iv p0, iv p1, iv p2, iv p3, iv p4, iv (4 : Int32), iv (2 : Int32), iv c0, iv c1, iv c2, iv c3, rv b1, .val .null, iv (own_val c0), iv (own_val c1), iv (own_val c2), iv (own_val c3), iv (0 : Int32), iv (0 : Int32)] [])) (fun _ k_ => XS.ifnonnullNo X10.here hx rfl (hb hby at_172) rfl k_) ?_
          refine own_stW (T' := T10) (g' := (mkF m 176 #[iv p0, iv p1, iv p2, iv p3, iv p4, iv (4 : Int32), iv (2 : Int32), iv c0, iv c1, iv c2, iv c3, rv b1, .val .null, iv (own_val c0), iv (own_val c1), iv (own_val c2), iv (own_val c3), iv (0 : Int32), iv (0 : Int32)] [(.int (1 : Int32))])) (fun _ k_ => XS.iconst X10.here hx rfl (hb hby at_175) k_) ?_
          refine own_stW (T' := T10) (g' := (mkF m 180 #[iv p0, iv p1, iv p2, iv p3, iv p4, iv (4 : Int32), iv (2 : Int32), iv c0, iv c1, iv c2, iv c3, rv b1, .val .null, iv (own_val c0), iv (own_val c1), iv (own_val c2), iv (own_val c3), iv (0 : Int32), iv (0 : Int32)] [(.int (1 : Int32))])) (fun _ k_ => XS.goto X10.here hx rfl (pc0 := 176) (pc' := 180) rfl (hb hby at_176) (by decide) (by decide) k_) ?_
          exact own_retNW X10 hZ1 hS1 (by rw [eq10]; exact (Nat.le_trans (Nat.le_refl _) K4.1)) hEL (by rw [eq10]; exact CR5) hx (t := .boolean) hret (by simp) hlk (hb hby at_180) (by decide) (by decide) ⟨rfl, N10⟩
        · refine own_stW (T' := T10) (g' := (mkF m 148 #[iv p0, iv p1, iv p2, iv p3, iv p4, iv (4 : Int32), iv (2 : Int32), iv c0, iv c1, iv c2, iv c3, rv b1, .val .null, iv (own_val c0), iv (own_val c1), iv (own_val c2), iv (own_val c3), iv (0 : Int32), .unset] [])) (fun _ k_ => XS.ifNo X10.here hx rfl (hb hby at_145) rfl ((if0 _ _).trans (flt hc14).1) k_) ?_
          refine own_stW (T' := T10) (g' := (mkF m 150 #[iv p0, iv p1, iv p2, iv p3, iv p4, iv (4 : Int32), iv (2 : Int32), iv c0, iv c1, iv c2, iv c3, rv b1, .val .null, iv (own_val c0), iv (own_val c1), iv (own_val c2), iv (own_val c3), iv (0 : Int32), .unset] [(.int (own_val c3))])) (fun _ k_ => XS.iload X10.here hx rfl (hb hby at_148) rfl  k_) ?_
          by_cases hc15 : (own_val c3) < (0 : Int32)
          · refine own_stW (T' := T10) (g' := (mkF m 157 #[iv p0, iv p1, iv p2, iv p3, iv p4, iv (4 : Int32), iv (2 : Int32), iv c0, iv c1, iv c2, iv c3, rv b1, .val .null, iv (own_val c0), iv (own_val c1), iv (own_val c2), iv (own_val c3), iv (0 : Int32), .unset] [])) (fun _ k_ => XS.ifYes X10.here hx rfl (pc0 := 150) (pc' := 157) rfl (hb hby at_150) rfl ((if0 _ _).trans (tlt hc15).1) (by decide) (by decide) k_) ?_
            refine own_stW (T' := T10) (g' := (mkF m 158 #[iv p0, iv p1, iv p2, iv p3, iv p4, iv (4 : Int32), iv (2 : Int32), iv c0, iv c1, iv c2, iv c3, rv b1, .val .null, iv (own_val c0), iv (own_val c1), iv (own_val c2), iv (own_val c3), iv (0 : Int32), .unset] [(.int (0 : Int32))])) (fun _ k_ => XS.iconst X10.here hx rfl (hb hby at_157) k_) ?_
            refine own_stW (T' := T10) (g' := (mkF m 160 #[iv p0, iv p1, iv p2, iv p3, iv p4, iv (4 : Int32), iv (2 : Int32), iv c0, iv c1, iv c2, iv c3, rv b1, .val .null, iv (own_val c0), iv (own_val c1), iv (own_val c2), iv (own_val c3), iv (0 : Int32), iv (0 : Int32)] [])) (fun _ k_ => XS.istore X10.here hx rfl (hb hby at_158) rfl (l' := #[iv p0, iv p1, iv p2, iv p3, iv p4, iv (4 : Int32), iv (2 : Int32), iv c0, iv c1, iv c2, iv c3, rv b1, .val .null, iv (own_val c0), iv (own_val c1), iv (own_val c2), iv (own_val c3), iv (0 : Int32), iv (0 : Int32)]) rfl k_) ?_
            refine own_stW (T' := T10) (g' := (mkF m 162 #[iv p0, iv p1, iv p2, iv p3, iv p4, iv (4 : Int32), iv (2 : Int32), iv c0, iv c1, iv c2, iv c3, rv b1, .val .null, iv (own_val c0), iv (own_val c1), iv (own_val c2), iv (own_val c3), iv (0 : Int32), iv (0 : Int32)] [(.int (0 : Int32))])) (fun _ k_ => XS.iload X10.here hx rfl (hb hby at_160) rfl  k_) ?_
            refine own_stW (T' := T10) (g' := (mkF m 170 #[iv p0, iv p1, iv p2, iv p3, iv p4, iv (4 : Int32), iv (2 : Int32), iv c0, iv c1, iv c2, iv c3, rv b1, .val .null, iv (own_val c0), iv (own_val c1), iv (own_val c2), iv (own_val c3), iv (0 : Int32), iv (0 : Int32)] [])) (fun _ k_ => XS.ifYes X10.here hx rfl (pc0 := 162) (pc' := 170) rfl (hb hby at_162) rfl ((if0 _ _).trans (teq (rfl : (0 : Int32) = (0 : Int32))).1) (by decide) (by decide) k_) ?_
            refine own_stW (T' := T10) (g' := (mkF m 172 #[iv p0, iv p1, iv p2, iv p3, iv p4, iv (4 : Int32), iv (2 : Int32), iv c0, iv c1, iv c2, iv c3, rv b1, .val .null, iv (own_val c0), iv (own_val c1), iv (own_val c2), iv (own_val c3), iv (0 : Int32), iv (0 : Int32)] [.null])) (fun _ k_ => XS.aload X10.here hx rfl (hb hby at_170) rfl rfl  k_) ?_
            refine own_stW (T' := T10) (g' := (mkF m 175 #[iv p0, iv p1, iv p2, iv p3, iv p4, iv (4 : Int32), iv (2 : Int32), iv c0, iv c1, iv c2, iv c3, rv b1, .val .null, iv (own_val c0), iv (own_val c1), iv (own_val c2), iv (own_val c3), iv (0 : Int32), iv (0 : Int32)] [])) (fun _ k_ => XS.ifnonnullNo X10.here hx rfl (hb hby at_172) rfl k_) ?_
            refine own_stW (T' := T10) (g' := (mkF m 176 #[iv p0, iv p1, iv p2, iv p3, iv p4, iv (4 : Int32), iv (2 : Int32), iv c0, iv c1, iv c2, iv c3, rv b1, .val .null, iv (own_val c0), iv (own_val c1), iv (own_val c2), iv (own_val c3), iv (0 : Int32), iv (0 : Int32)] [(.int (1 : Int32))])) (fun _ k_ => XS.iconst X10.here hx rfl (hb hby at_175) k_) ?_
            refine own_stW (T' := T10) (g' := (mkF m 180 #[iv p0, iv p1, iv p2, iv p3, iv p4, iv (4 : Int32), iv (2 : Int32), iv c0, iv c1, iv c2, iv c3, rv b1, .val .null, iv (own_val c0), iv (own_val c1), iv (own_val c2), iv (own_val c3), iv (0 : Int32), iv (0 : Int32)] [(.int (1 : Int32))])) (fun _ k_ => XS.goto X10.here hx rfl (pc0 := 176) (pc' := 180) rfl (hb hby at_176) (by decide) (by decide) k_) ?_
            exact own_retNW X10 hZ1 hS1 (by rw [eq10]; exact (Nat.le_trans (Nat.le_refl _) K4.1)) hEL (by rw [eq10]; exact CR5) hx (t := .boolean) hret (by simp) hlk (hb hby at_180) (by decide) (by decide) ⟨rfl, N10⟩
          · refine own_stW (T' := T10) (g' := (mkF m 153 #[iv p0, iv p1, iv p2, iv p3, iv p4, iv (4 : Int32), iv (2 : Int32), iv c0, iv c1, iv c2, iv c3, rv b1, .val .null, iv (own_val c0), iv (own_val c1), iv (own_val c2), iv (own_val c3), iv (0 : Int32), .unset] [])) (fun _ k_ => XS.ifNo X10.here hx rfl (hb hby at_150) rfl ((if0 _ _).trans (flt hc15).1) k_) ?_
            refine own_stW (T' := T10) (g' := (mkF m 154 #[iv p0, iv p1, iv p2, iv p3, iv p4, iv (4 : Int32), iv (2 : Int32), iv c0, iv c1, iv c2, iv c3, rv b1, .val .null, iv (own_val c0), iv (own_val c1), iv (own_val c2), iv (own_val c3), iv (0 : Int32), .unset] [(.int (1 : Int32))])) (fun _ k_ => XS.iconst X10.here hx rfl (hb hby at_153) k_) ?_
            refine own_stW (T' := T10) (g' := (mkF m 158 #[iv p0, iv p1, iv p2, iv p3, iv p4, iv (4 : Int32), iv (2 : Int32), iv c0, iv c1, iv c2, iv c3, rv b1, .val .null, iv (own_val c0), iv (own_val c1), iv (own_val c2), iv (own_val c3), iv (0 : Int32), .unset] [(.int (1 : Int32))])) (fun _ k_ => XS.goto X10.here hx rfl (pc0 := 154) (pc' := 158) rfl (hb hby at_154) (by decide) (by decide) k_) ?_
            refine own_stW (T' := T10) (g' := (mkF m 160 #[iv p0, iv p1, iv p2, iv p3, iv p4, iv (4 : Int32), iv (2 : Int32), iv c0, iv c1, iv c2, iv c3, rv b1, .val .null, iv (own_val c0), iv (own_val c1), iv (own_val c2), iv (own_val c3), iv (0 : Int32), iv (1 : Int32)] [])) (fun _ k_ => XS.istore X10.here hx rfl (hb hby at_158) rfl (l' := #[iv p0, iv p1, iv p2, iv p3, iv p4, iv (4 : Int32), iv (2 : Int32), iv c0, iv c1, iv c2, iv c3, rv b1, .val .null, iv (own_val c0), iv (own_val c1), iv (own_val c2), iv (own_val c3), iv (0 : Int32), iv (1 : Int32)]) rfl k_) ?_
            refine own_stW (T' := T10) (g' := (mkF m 162 #[iv p0, iv p1, iv p2, iv p3, iv p4, iv (4 : Int32), iv (2 : Int32), iv c0, iv c1, iv c2, iv c3, rv b1, .val .null, iv (own_val c0), iv (own_val c1), iv (own_val c2), iv (own_val c3), iv (0 : Int32), iv (1 : Int32)] [(.int (0 : Int32))])) (fun _ k_ => XS.iload X10.here hx rfl (hb hby at_160) rfl  k_) ?_
            refine own_stW (T' := T10) (g' := (mkF m 170 #[iv p0, iv p1, iv p2, iv p3, iv p4, iv (4 : Int32), iv (2 : Int32), iv c0, iv c1, iv c2, iv c3, rv b1, .val .null, iv (own_val c0), iv (own_val c1), iv (own_val c2), iv (own_val c3), iv (0 : Int32), iv (1 : Int32)] [])) (fun _ k_ => XS.ifYes X10.here hx rfl (pc0 := 162) (pc' := 170) rfl (hb hby at_162) rfl ((if0 _ _).trans (teq (rfl : (0 : Int32) = (0 : Int32))).1) (by decide) (by decide) k_) ?_
            refine own_stW (T' := T10) (g' := (mkF m 172 #[iv p0, iv p1, iv p2, iv p3, iv p4, iv (4 : Int32), iv (2 : Int32), iv c0, iv c1, iv c2, iv c3, rv b1, .val .null, iv (own_val c0), iv (own_val c1), iv (own_val c2), iv (own_val c3), iv (0 : Int32), iv (1 : Int32)] [.null])) (fun _ k_ => XS.aload X10.here hx rfl (hb hby at_170) rfl rfl  k_) ?_
            refine own_stW (T' := T10) (g' := (mkF m 175 #[iv p0, iv p1, iv p2, iv p3, iv p4, iv (4 : Int32), iv (2 : Int32), iv c0, iv c1, iv c2, iv c3, rv b1, .val .null, iv (own_val c0), iv (own_val c1), iv (own_val c2), iv (own_val c3), iv (0 : Int32), iv (1 : Int32)] [])) (fun _ k_ => XS.ifnonnullNo X10.here hx rfl (hb hby at_172) rfl k_) ?_
            refine own_stW (T' := T10) (g' := (mkF m 176 #[iv p0, iv p1, iv p2, iv p3, iv p4, iv (4 : Int32), iv (2 : Int32), iv c0, iv c1, iv c2, iv c3, rv b1, .val .null, iv (own_val c0), iv (own_val c1), iv (own_val c2), iv (own_val c3), iv (0 : Int32), iv (1 : Int32)] [(.int (1 : Int32))])) (fun _ k_ => XS.iconst X10.here hx rfl (hb hby at_175) k_) ?_
            refine own_stW (T' := T10) (g' := (mkF m 180 #[iv p0, iv p1, iv p2, iv p3, iv p4, iv (4 : Int32), iv (2 : Int32), iv c0, iv c1, iv c2, iv c3, rv b1, .val .null, iv (own_val c0), iv (own_val c1), iv (own_val c2), iv (own_val c3), iv (0 : Int32), iv (1 : Int32)] [(.int (1 : Int32))])) (fun _ k_ => XS.goto X10.here hx rfl (pc0 := 176) (pc' := 180) rfl (hb hby at_176) (by decide) (by decide) k_) ?_
            exact own_retNW X10 hZ1 hS1 (by rw [eq10]; exact (Nat.le_trans (Nat.le_refl _) K4.1)) hEL (by rw [eq10]; exact CR5) hx (t := .boolean) hret (by simp) hlk (hb hby at_180) (by decide) (by decide) ⟨rfl, N10⟩
    · refine own_stW (T' := T4) (g' := (mkF m 66 #[iv p0, iv p1, iv p2, iv p3, iv p4, iv (4 : Int32), iv (2 : Int32), iv c0, iv c1, iv c2, iv c3, rv b1, .val .null, .unset, .unset, .unset, .unset, .unset, .unset] [])) (fun _ k_ => XS.astore X4.here hx rfl (hb hby at_64) rfl rfl (l' := #[iv p0, iv p1, iv p2, iv p3, iv p4, iv (4 : Int32), iv (2 : Int32), iv c0, iv c1, iv c2, iv c3, rv b1, .val .null, .unset, .unset, .unset, .unset, .unset, .unset]) rfl k_) ?_
      refine own_stW (T' := T4) (g' := (mkF m 68 #[iv p0, iv p1, iv p2, iv p3, iv p4, iv (4 : Int32), iv (2 : Int32), iv c0, iv c1, iv c2, iv c3, rv b1, .val .null, .unset, .unset, .unset, .unset, .unset, .unset] [(.int (4 : Int32))])) (fun _ k_ => XS.iload X4.here hx rfl (hb hby at_66) rfl  k_) ?_
      refine own_stW (T' := T4) (g' := (mkF m 69 #[iv p0, iv p1, iv p2, iv p3, iv p4, iv (4 : Int32), iv (2 : Int32), iv c0, iv c1, iv c2, iv c3, rv b1, .val .null, .unset, .unset, .unset, .unset, .unset, .unset] [(.int (2 : Int32)), (.int (4 : Int32))])) (fun _ k_ => XS.iconst X4.here hx rfl (hb hby at_68) k_) ?_
      refine own_stW (T' := T4) (g' := (mkF m 71 #[iv p0, iv p1, iv p2, iv p3, iv p4, iv (4 : Int32), iv (2 : Int32), iv c0, iv c1, iv c2, iv c3, rv b1, .val .null, .unset, .unset, .unset, .unset, .unset, .unset] [(.int (2 : Int32)), (.int (2 : Int32)), (.int (4 : Int32))])) (fun _ k_ => XS.iload X4.here hx rfl (hb hby at_69) rfl  k_) ?_
      refine own_stW (T' := T4) (g' := (mkF m 72 #[iv p0, iv p1, iv p2, iv p3, iv p4, iv (4 : Int32), iv (2 : Int32), iv c0, iv c1, iv c2, iv c3, rv b1, .val .null, .unset, .unset, .unset, .unset, .unset, .unset] [(.int (4 : Int32)), (.int (4 : Int32))])) (fun _ k_ => XS.imul X4.here hx rfl (hb hby at_71) rfl k_) ?_
      refine own_stW (T' := T4) (g' := (mkF m 86 #[iv p0, iv p1, iv p2, iv p3, iv p4, iv (4 : Int32), iv (2 : Int32), iv c0, iv c1, iv c2, iv c3, rv b1, .val .null, .unset, .unset, .unset, .unset, .unset, .unset] [])) (fun _ k_ => XS.icmpYes X4.here hx rfl (pc0 := 72) (pc' := 86) rfl (hb hby at_72) rfl (teq (rfl : (4 : Int32) = (4 : Int32))).1 (by decide) (by decide) k_) ?_
      refine own_stW (T' := T4) (g' := (mkF m 88 #[iv p0, iv p1, iv p2, iv p3, iv p4, iv (4 : Int32), iv (2 : Int32), iv c0, iv c1, iv c2, iv c3, rv b1, .val .null, .unset, .unset, .unset, .unset, .unset, .unset] [(.int c0)])) (fun _ k_ => XS.iload X4.here hx rfl (hb hby at_86) rfl  k_) ?_
      have f16 : Old Z n0 T4.heap := f3.keep K4 all0
      obtain ⟨_, T17, L17, X17, hQ17, st17⟩ := own_callS X4 hx (y := own_m7) hown1 (mvT hZ1 (hw _ (List.mem_of_getElem? (i := 44) rfl))) (mvT hZ1 (hw _ (List.mem_of_getElem? (i := 45) rfl))) (mvT hZ1 (hw _ (List.mem_of_getElem? (i := 2) rfl))) (mvT hZ1 (hw _ (List.mem_of_getElem? (i := 46) rfl))) (by decide) (backOf (W := 0) (rm_val l Z a0 hw [] c0 T4.heap n0 f16) hZ1 (hw _ (List.mem_of_getElem? (i := 46) rfl)) (hw _ (List.mem_of_getElem? (i := 2) rfl)) (by decide) (by decide)) (g := (mkF m 88 #[iv p0, iv p1, iv p2, iv p3, iv p4, iv (4 : Int32), iv (2 : Int32), iv c0, iv c1, iv c2, iv c3, rv b1, .val .null, .unset, .unset, .unset, .unset, .unset, .unset] [(.int c0)])) rfl (by rw [hml]; rfl) (argsL := [(.int c0)]) (rest := []) (lenOf pd__C_I rfl) rfl (by show 2 * 0 + _ ≤ _; exact Nat.le_of_eq rfl) (hb hby at_88) rfl rfl (by decide) (by decide) (c' := 15) (s' := 286) rfl rfl
      obtain ⟨rfl, Nq17, eq17⟩ := hQ17
      have N17 := Fr.app N4 Nq17
      refine own_stW (T' := T17) (g' := (mkF m 91 #[iv p0, iv p1, iv p2, iv p3, iv p4, iv (4 : Int32), iv (2 : Int32), iv c0, iv c1, iv c2, iv c3, rv b1, .val .null, .unset, .unset, .unset, .unset, .unset, .unset] [(.int (own_val c0))])) st17 ?_
      clear st17
      refine own_stW (T' := T17) (g' := (mkF m 93 #[iv p0, iv p1, iv p2, iv p3, iv p4, iv (4 : Int32), iv (2 : Int32), iv c0, iv c1, iv c2, iv c3, rv b1, .val .null, iv (own_val c0), .unset, .unset, .unset, .unset, .unset] [])) (fun _ k_ => XS.istore X17.here hx rfl (hb hby at_91) rfl (l' := #[iv p0, iv p1, iv p2, iv p3, iv p4, iv (4 : Int32), iv (2 : Int32), iv c0, iv c1, iv c2, iv c3, rv b1, .val .null, iv (own_val c0), .unset, .unset, .unset, .unset, .unset]) rfl k_) ?_
      refine own_stW (T' := T17) (g' := (mkF m 95 #[iv p0, iv p1, iv p2, iv p3, iv p4, iv (4 : Int32), iv (2 : Int32), iv c0, iv c1, iv c2, iv c3, rv b1, .val .null, iv (own_val c0), .unset, .unset, .unset, .unset, .unset] [(.int c1)])) (fun _ k_ => XS.iload X17.here hx rfl (hb hby at_93) rfl  k_) ?_
      obtain ⟨_, T18, L18, X18, hQ18, st18⟩ := own_callS X17 hx (y := own_m7) hown1 (mvT hZ1 (hw _ (List.mem_of_getElem? (i := 44) rfl))) (mvT hZ1 (hw _ (List.mem_of_getElem? (i := 45) rfl))) (mvT hZ1 (hw _ (List.mem_of_getElem? (i := 2) rfl))) (mvT hZ1 (hw _ (List.mem_of_getElem? (i := 46) rfl))) (by decide) (backOf (W := 0) (rm_val l Z a0 hw [] c1 T4.heap n0 f16) hZ1 (hw _ (List.mem_of_getElem? (i := 46) rfl)) (hw _ (List.mem_of_getElem? (i := 2) rfl)) (by decide) (by decide)) (g := (mkF m 95 #[iv p0, iv p1, iv p2, iv p3, iv p4, iv (4 : Int32), iv (2 : Int32), iv c0, iv c1, iv c2, iv c3, rv b1, .val .null, iv (own_val c0), .unset, .unset, .unset, .unset, .unset] [(.int c1)])) rfl (by rw [hml]; rfl) (argsL := [(.int c1)]) (rest := []) (lenOf pd__C_I rfl) rfl (by show 2 * 0 + _ ≤ _; exact Nat.le_of_eq rfl) (hb hby at_95) rfl eq17 (by decide) (by decide) (c' := 15) (s' := 286) rfl rfl
      obtain ⟨rfl, Nq18, eq18⟩ := hQ18
      have N18 := Fr.app N17 Nq18
      refine own_stW (T' := T18) (g' := (mkF m 98 #[iv p0, iv p1, iv p2, iv p3, iv p4, iv (4 : Int32), iv (2 : Int32), iv c0, iv c1, iv c2, iv c3, rv b1, .val .null, iv (own_val c0), .unset, .unset, .unset, .unset, .unset] [(.int (own_val c1))])) st18 ?_
      clear st18
      refine own_stW (T' := T18) (g' := (mkF m 100 #[iv p0, iv p1, iv p2, iv p3, iv p4, iv (4 : Int32), iv (2 : Int32), iv c0, iv c1, iv c2, iv c3, rv b1, .val .null, iv (own_val c0), iv (own_val c1), .unset, .unset, .unset, .unset] [])) (fun _ k_ => XS.istore X18.here hx rfl (hb hby at_98) rfl (l' := #[iv p0, iv p1, iv p2, iv p3, iv p4, iv (4 : Int32), iv (2 : Int32), iv c0, iv c1, iv c2, iv c3, rv b1, .val .null, iv (own_val c0), iv (own_val c1), .unset, .unset, .unset, .unset]) rfl k_) ?_
      refine own_stW (T' := T18) (g' := (mkF m 102 #[iv p0, iv p1, iv p2, iv p3, iv p4, iv (4 : Int32), iv (2 : Int32), iv c0, iv c1, iv c2, iv c3, rv b1, .val .null, iv (own_val c0), iv (own_val c1), .unset, .unset, .unset, .unset] [(.int c2)])) (fun _ k_ => XS.iload X18.here hx rfl (hb hby at_100) rfl  k_) ?_
      obtain ⟨_, T19, L19, X19, hQ19, st19⟩ := own_callS X18 hx (y := own_m7) hown1 (mvT hZ1 (hw _ (List.mem_of_getElem? (i := 44) rfl))) (mvT hZ1 (hw _ (List.mem_of_getElem? (i := 45) rfl))) (mvT hZ1 (hw _ (List.mem_of_getElem? (i := 2) rfl))) (mvT hZ1 (hw _ (List.mem_of_getElem? (i := 46) rfl))) (by decide) (backOf (W := 0) (rm_val l Z a0 hw [] c2 T4.heap n0 f16) hZ1 (hw _ (List.mem_of_getElem? (i := 46) rfl)) (hw _ (List.mem_of_getElem? (i := 2) rfl)) (by decide) (by decide)) (g := (mkF m 102 #[iv p0, iv p1, iv p2, iv p3, iv p4, iv (4 : Int32), iv (2 : Int32), iv c0, iv c1, iv c2, iv c3, rv b1, .val .null, iv (own_val c0), iv (own_val c1), .unset, .unset, .unset, .unset] [(.int c2)])) rfl (by rw [hml]; rfl) (argsL := [(.int c2)]) (rest := []) (lenOf pd__C_I rfl) rfl (by show 2 * 0 + _ ≤ _; exact Nat.le_of_eq rfl) (hb hby at_102) rfl eq18 (by decide) (by decide) (c' := 15) (s' := 286) rfl rfl
      obtain ⟨rfl, Nq19, eq19⟩ := hQ19
      have N19 := Fr.app N18 Nq19
      refine own_stW (T' := T19) (g' := (mkF m 105 #[iv p0, iv p1, iv p2, iv p3, iv p4, iv (4 : Int32), iv (2 : Int32), iv c0, iv c1, iv c2, iv c3, rv b1, .val .null, iv (own_val c0), iv (own_val c1), .unset, .unset, .unset, .unset] [(.int (own_val c2))])) st19 ?_
      clear st19
      refine own_stW (T' := T19) (g' := (mkF m 107 #[iv p0, iv p1, iv p2, iv p3, iv p4, iv (4 : Int32), iv (2 : Int32), iv c0, iv c1, iv c2, iv c3, rv b1, .val .null, iv (own_val c0), iv (own_val c1), iv (own_val c2), .unset, .unset, .unset] [])) (fun _ k_ => XS.istore X19.here hx rfl (hb hby at_105) rfl (l' := #[iv p0, iv p1, iv p2, iv p3, iv p4, iv (4 : Int32), iv (2 : Int32), iv c0, iv c1, iv c2, iv c3, rv b1, .val .null, iv (own_val c0), iv (own_val c1), iv (own_val c2), .unset, .unset, .unset]) rfl k_) ?_
      refine own_stW (T' := T19) (g' := (mkF m 109 #[iv p0, iv p1, iv p2, iv p3, iv p4, iv (4 : Int32), iv (2 : Int32), iv c0, iv c1, iv c2, iv c3, rv b1, .val .null, iv (own_val c0), iv (own_val c1), iv (own_val c2), .unset, .unset, .unset] [(.int c3)])) (fun _ k_ => XS.iload X19.here hx rfl (hb hby at_107) rfl  k_) ?_
      obtain ⟨_, T20, L20, X20, hQ20, st20⟩ := own_callS X19 hx (y := own_m7) hown1 (mvT hZ1 (hw _ (List.mem_of_getElem? (i := 44) rfl))) (mvT hZ1 (hw _ (List.mem_of_getElem? (i := 45) rfl))) (mvT hZ1 (hw _ (List.mem_of_getElem? (i := 2) rfl))) (mvT hZ1 (hw _ (List.mem_of_getElem? (i := 46) rfl))) (by decide) (backOf (W := 0) (rm_val l Z a0 hw [] c3 T4.heap n0 f16) hZ1 (hw _ (List.mem_of_getElem? (i := 46) rfl)) (hw _ (List.mem_of_getElem? (i := 2) rfl)) (by decide) (by decide)) (g := (mkF m 109 #[iv p0, iv p1, iv p2, iv p3, iv p4, iv (4 : Int32), iv (2 : Int32), iv c0, iv c1, iv c2, iv c3, rv b1, .val .null, iv (own_val c0), iv (own_val c1), iv (own_val c2), .unset, .unset, .unset] [(.int c3)])) rfl (by rw [hml]; rfl) (argsL := [(.int c3)]) (rest := []) (lenOf pd__C_I rfl) rfl (by show 2 * 0 + _ ≤ _; exact Nat.le_of_eq rfl) (hb hby at_109) rfl eq19 (by decide) (by decide) (c' := 15) (s' := 286) rfl rfl
      obtain ⟨rfl, Nq20, eq20⟩ := hQ20
      have N20 := Fr.app N19 Nq20
      refine own_stW (T' := T20) (g' := (mkF m 112 #[iv p0, iv p1, iv p2, iv p3, iv p4, iv (4 : Int32), iv (2 : Int32), iv c0, iv c1, iv c2, iv c3, rv b1, .val .null, iv (own_val c0), iv (own_val c1), iv (own_val c2), .unset, .unset, .unset] [(.int (own_val c3))])) st20 ?_
      clear st20
      refine own_stW (T' := T20) (g' := (mkF m 114 #[iv p0, iv p1, iv p2, iv p3, iv p4, iv (4 : Int32), iv (2 : Int32), iv c0, iv c1, iv c2, iv c3, rv b1, .val .null, iv (own_val c0), iv (own_val c1), iv (own_val c2), iv (own_val c3), .unset, .unset] [])) (fun _ k_ => XS.istore X20.here hx rfl (hb hby at_112) rfl (l' := #[iv p0, iv p1, iv p2, iv p3, iv p4, iv (4 : Int32), iv (2 : Int32), iv c0, iv c1, iv c2, iv c3, rv b1, .val .null, iv (own_val c0), iv (own_val c1), iv (own_val c2), iv (own_val c3), .unset, .unset]) rfl k_) ?_
      refine own_stW (T' := T20) (g' := (mkF m 116 #[iv p0, iv p1, iv p2, iv p3, iv p4, iv (4 : Int32), iv (2 : Int32), iv c0, iv c1, iv c2, iv c3, rv b1, .val .null, iv (own_val c0), iv (own_val c1), iv (own_val c2), iv (own_val c3), .unset, .unset] [(.int (2 : Int32))])) (fun _ k_ => XS.iload X20.here hx rfl (hb hby at_114) rfl  k_) ?_
      refine own_stW (T' := T20) (g' := (mkF m 117 #[iv p0, iv p1, iv p2, iv p3, iv p4, iv (4 : Int32), iv (2 : Int32), iv c0, iv c1, iv c2, iv c3, rv b1, .val .null, iv (own_val c0), iv (own_val c1), iv (own_val c2), iv (own_val c3), .unset, .unset] [(.int (1 : Int32)), (.int (2 : Int32))])) (fun _ k_ => XS.iconst X20.here hx rfl (hb hby at_116) k_) ?_
      refine own_stW (T' := T20) (g' := (mkF m 120 #[iv p0, iv p1, iv p2, iv p3, iv p4, iv (4 : Int32), iv (2 : Int32), iv c0, iv c1, iv c2, iv c3, rv b1, .val .null, iv (own_val c0), iv (own_val c1), iv (own_val c2), iv (own_val c3), .unset, .unset] [])) (fun _ k_ => XS.icmpNo X20.here hx rfl (hb hby at_117) rfl (flt (by decide : ¬ ((2 : Int32) < (1 : Int32)))).1 k_) ?_
      refine own_stW (T' := T20) (g' := (mkF m 122 #[iv p0, iv p1, iv p2, iv p3, iv p4, iv (4 : Int32), iv (2 : Int32), iv c0, iv c1, iv c2, iv c3, rv b1, .val .null, iv (own_val c0), iv (own_val c1), iv (own_val c2), iv (own_val c3), .unset, .unset] [(.int (own_val c0))])) (fun _ k_ => XS.iload X20.here hx rfl (hb hby at_120) rfl  k_) ?_
      by_cases hc21 : (own_val c0) < (0 : Int32)
      · refine own_stW (T' := T20) (g' := (mkF m 134 #[iv p0, iv p1, iv p2, iv p3, iv p4, iv (4 : Int32), iv (2 : Int32), iv c0, iv c1, iv c2, iv c3, rv b1, .val .null, iv (own_val c0), iv (own_val c1), iv (own_val c2), iv (own_val c3), .unset, .unset] [])) (fun _ k_ => XS.ifYes X20.here hx rfl (pc0 := 122) (pc' := 134) rfl (hb hby at_122) rfl ((if0 _ _).trans (tlt hc21).1) (by decide) (by decide) k_) ?_
        refine own_stW (T' := T20) (g' := (mkF m 135 #[iv p0, iv p1, iv p2, iv p3, iv p4, iv (4 : Int32), iv (2 : Int32), iv c0, iv c1, iv c2, iv c3, rv b1, .val .null, iv (own_val c0), iv (own_val c1), iv (own_val c2), iv (own_val c3), .unset, .unset] [(.int (0 : Int32))])) (fun _ k_ => XS.iconst X20.here hx rfl (hb hby at_134) k_) ?_
        refine own_stW (T' := T20) (g' := (mkF m 137 #[iv p0, iv p1, iv p2, iv p3, iv p4, iv (4 : Int32), iv (2 : Int32), iv c0, iv c1, iv c2, iv c3, rv b1, .val .null, iv (own_val c0), iv (own_val c1), iv (own_val c2), iv (own_val c3), iv (0 : Int32), .unset] [])) (fun _ k_ => XS.istore X20.here hx rfl (hb hby at_135) rfl (l' := #[iv p0, iv p1, iv p2, iv p3, iv p4, iv (4 : Int32), iv (2 : Int32), iv c0, iv c1, iv c2, iv c3, rv b1, .val .null, iv (own_val c0), iv (own_val c1), iv (own_val c2), iv (own_val c3), iv (0 : Int32), .unset]) rfl k_) ?_
        refine own_stW (T' := T20) (g' := (mkF m 139 #[iv p0, iv p1, iv p2, iv p3, iv p4, iv (4 : Int32), iv (2 : Int32), iv c0, iv c1, iv c2, iv c3, rv b1, .val .null, iv (own_val c0), iv (own_val c1), iv (own_val c2), iv (own_val c3), iv (0 : Int32), .unset] [(.int (2 : Int32))])) (fun _ k_ => XS.iload X20.here hx rfl (hb hby at_137) rfl  k_) ?_
        refine own_stW (T' := T20) (g' := (mkF m 140 #[iv p0, iv p1, iv p2, iv p3, iv p4, iv (4 : Int32), iv (2 : Int32), iv c0, iv c1, iv c2, iv c3, rv b1, .val .null, iv (own_val c0), iv (own_val c1), iv (own_val c2), iv (own_val c3), iv (0 : Int32), .unset] [(.int (2 : Int32)), (.int (2 : Int32))])) (fun _ k_ => XS.iconst X20.here hx rfl (hb hby at_139) k_) ?_
        refine own_stW (T' := T20) (g' := (mkF m 143 #[iv p0, iv p1, iv p2, iv p3, iv p4, iv (4 : Int32), iv (2 : Int32), iv c0, iv c1, iv c2, iv c3, rv b1, .val .null, iv (own_val c0), iv (own_val c1), iv (own_val c2), iv (own_val c3), iv (0 : Int32), .unset] [])) (fun _ k_ => XS.icmpNo X20.here hx rfl (hb hby at_140) rfl (flt (by decide : ¬ ((2 : Int32) < (2 : Int32)))).1 k_) ?_
        refine own_stW (T' := T20) (g' := (mkF m 145 #[iv p0, iv p1, iv p2, iv p3, iv p4, iv (4 : Int32), iv (2 : Int32), iv c0, iv c1, iv c2, iv c3, rv b1, .val .null, iv (own_val c0), iv (own_val c1), iv (own_val c2), iv (own_val c3), iv (0 : Int32), .unset] [(.int (own_val c2))])) (fun _ k_ => XS.iload X20.here hx rfl (hb hby at_143) rfl  k_) ?_
        by_cases hc22 : (own_val c2) < (0 : Int32)
        · refine own_stW (T' := T20) (g' := (mkF m 157 #[iv p0, iv p1, iv p2, iv p3, iv p4, iv (4 : Int32), iv (2 : Int32), iv c0, iv c1, iv c2, iv c3, rv b1, .val .null, iv (own_val c0), iv (own_val c1), iv (own_val c2), iv (own_val c3), iv (0 : Int32), .unset] [])) (fun _ k_ => XS.ifYes X20.here hx rfl (pc0 := 145) (pc' := 157) rfl (hb hby at_145) rfl ((if0 _ _).trans (tlt hc22).1) (by decide) (by decide) k_) ?_
          refine own_stW (T' := T20) (g' := (mkF m 158 #[iv p0, iv p1, iv p2, iv p3, iv p4, iv (4 : Int32), iv (2 : Int32), iv c0, iv c1, iv c2, iv c3, rv b1, .val .null, iv (own_val c0), iv (own_val c1), iv (own_val c2), iv (own_val c3), iv (0 : Int32), .unset] [(.int (0 : Int32))])) (fun _ k_ => XS.iconst X20.here hx rfl (hb hby at_157) k_) ?_
          refine own_stW (T' := T20) (g' := (mkF m 160 #[iv p0, iv p1, iv p2, iv p3, iv p4, iv (4 : Int32), iv (2 : Int32), iv c0, iv c1, iv c2, iv c3, rv b1, .val .null, iv (own_val c0), iv (own_val c1), iv (own_val c2), iv (own_val c3), iv (0 : Int32), iv (0 : Int32)] [])) (fun _ k_ => XS.istore X20.here hx rfl (hb hby at_158) rfl (l' := #[iv p0, iv p1, iv p2, iv p3, iv p4, iv (4 : Int32), iv (2 : Int32), iv c0, iv c1, iv c2, iv c3, rv b1, .val .null, iv (own_val c0), iv (own_val c1), iv (own_val c2), iv (own_val c3), iv (0 : Int32), iv (0 : Int32)]) rfl k_) ?_
          refine own_stW (T' := T20) (g' := (mkF m 162 #[iv p0, iv p1, iv p2, iv p3, iv p4, iv (4 : Int32), iv (2 : Int32), iv c0, iv c1, iv c2, iv c3, rv b1, .val .null, iv (own_val c0), iv (own_val c1), iv (own_val c2), iv (own_val c3), iv (0 : Int32), iv (0 : Int32)] [(.int (0 : Int32))])) (fun _ k_ => XS.iload X20.here hx rfl (hb hby at_160) rfl  k_) ?_
          refine own_stW (T' := T20) (g' := (mkF m 170 #[iv p0, iv p1, iv p2, iv p3, iv p4, iv (4 : Int32), iv (2 : Int32), iv c0, iv c1, iv c2, iv c3, rv b1, .val .null, iv (own_val c0), iv (own_val c1), iv (own_val c2), iv (own_val c3), iv (0 : Int32), iv (0 : Int32)] [])) (fun _ k_ => XS.ifYes X20.here hx rfl (pc0 := 162) (pc' := 170) rfl (hb hby at_162) rfl ((if0 _ _).trans (teq (rfl : (0 : Int32) = (0 : Int32))).1) (by decide) (by decide) k_) ?_
          refine own_stW (T' := T20) (g' := (mkF m 172 #[iv p0, iv p1, iv p2, iv p3, iv p4, iv (4 : Int32), iv (2 : Int32), iv c0, iv c1, iv c2, iv c3, rv b1, .val .null, iv (own_val c0), iv (own_val c1), iv (own_val c2), iv (own_val c3), iv (0 : Int32), iv (0 : Int32)] [.null])) (fun _ k_ => XS.aload X20.here hx rfl (hb hby at_170) rfl rfl  k_) ?_
          refine own_stW (T' := T20) (g' := (mkF m 175 #[iv p0, iv p1, iv p2, iv p3, iv p4, iv (4 : Int32), iv (2 : Int32), iv c0, iv c1, iv c2, iv c3, rv b1, .val .null, iv (own_val c0), iv (own_val c1), iv (own_val c2), iv (own_val c3), iv (0 : Int32), iv (0 : Int32)] [])) (fun _ k_ => XS.ifnonnullNo X20.here hx rfl (hb hby at_172) rfl k_) ?_
          refine own_stW (T' := T20) (g' := (mkF m 176 #[iv p0, iv p1, iv p2, iv p3, iv p4, iv (4 : Int32), iv (2 : Int32), iv c0, iv c1, iv c2, iv c3, rv b1, .val .null, iv (own_val c0), iv (own_val c1), iv (own_val c2), iv (own_val c3), iv (0 : Int32), iv (0 : Int32)] [(.int (1 : Int32))])) (fun _ k_ => XS.iconst X20.here hx rfl (hb hby at_175) k_) ?_
          refine own_stW (T' := T20) (g' := (mkF m 180 #[iv p0, iv p1, iv p2, iv p3, iv p4, iv (4 : Int32), iv (2 : Int32), iv c0, iv c1, iv c2, iv c3, rv b1, .val .null, iv (own_val c0), iv (own_val c1), iv (own_val c2), iv (own_val c3), iv (0 : Int32), iv (0 : Int32)] [(.int (1 : Int32))])) (fun _ k_ => XS.goto X20.here hx rfl (pc0 := 176) (pc' := 180) rfl (hb hby at_176) (by decide) (by decide) k_) ?_
          exact own_retNW X20 hZ1 hS1 (by rw [eq20]; exact (Nat.le_trans (Nat.le_refl _) K4.1)) hEL (by rw [eq20]; exact CR5) hx (t := .boolean) hret (by simp) hlk (hb hby at_180) (by decide) (by decide) ⟨rfl, N20⟩
        · refine own_stW (T' := T20) (g' := (mkF m 148 #[iv p0, iv p1, iv p2, iv p3, iv p4, iv (4 : Int32), iv (2 : Int32), iv c0, iv c1, iv c2, iv c3, rv b1, .val .null, iv (own_val c0), iv (own_val c1), iv (own_val c2), iv (own_val c3), iv (0 : Int32), .unset] [])) (fun _ k_ => XS.ifNo X20.here hx rfl (hb hby at_145) rfl ((if0 _ _).trans (flt hc22).1) k_) ?_
          refine own_stW (T' := T20) (g' := (mkF m 150 #[iv p0, iv p1, iv p2, iv p3, iv p4, iv (4 : Int32), iv (2 : Int32), iv c0, iv c1, iv c2, iv c3, rv b1, .val .null, iv (own_val c0), iv (own_val c1), iv (own_val c2), iv (own_val c3), iv (0 : Int32), .unset] [(.int (own_val c3))])) (fun _ k_ => XS.iload X20.here hx rfl (hb hby at_148) rfl  k_) ?_
          refine own_stW (T' := T20) (g' := (mkF m 157 #[iv p0, iv p1, iv p2, iv p3, iv p4, iv (4 : Int32), iv (2 : Int32), iv c0, iv c1, iv c2, iv c3, rv b1, .val .null, iv (own_val c0), iv (own_val c1), iv (own_val c2), iv (own_val c3), iv (0 : Int32), .unset] [])) (fun _ k_ => XS.ifYes X20.here hx rfl (pc0 := 150) (pc' := 157) rfl (hb hby at_150) rfl ((if0 _ _).trans (tlt ((own_or2 hbad hc22) : (own_val c3) < (0 : Int32))).1) (by decide) (by decide) k_) ?_
          refine own_stW (T' := T20) (g' := (mkF m 158 #[iv p0, iv p1, iv p2, iv p3, iv p4, iv (4 : Int32), iv (2 : Int32), iv c0, iv c1, iv c2, iv c3, rv b1, .val .null, iv (own_val c0), iv (own_val c1), iv (own_val c2), iv (own_val c3), iv (0 : Int32), .unset] [(.int (0 : Int32))])) (fun _ k_ => XS.iconst X20.here hx rfl (hb hby at_157) k_) ?_
          refine own_stW (T' := T20) (g' := (mkF m 160 #[iv p0, iv p1, iv p2, iv p3, iv p4, iv (4 : Int32), iv (2 : Int32), iv c0, iv c1, iv c2, iv c3, rv b1, .val .null, iv (own_val c0), iv (own_val c1), iv (own_val c2), iv (own_val c3), iv (0 : Int32), iv (0 : Int32)] [])) (fun _ k_ => XS.istore X20.here hx rfl (hb hby at_158) rfl (l' := #[iv p0, iv p1, iv p2, iv p3, iv p4, iv (4 : Int32), iv (2 : Int32), iv c0, iv c1, iv c2, iv c3, rv b1, .val .null, iv (own_val c0), iv (own_val c1), iv (own_val c2), iv (own_val c3), iv (0 : Int32), iv (0 : Int32)]) rfl k_) ?_
          refine own_stW (T' := T20) (g' := (mkF m 162 #[iv p0, iv p1, iv p2, iv p3, iv p4, iv (4 : Int32), iv (2 : Int32), iv c0, iv c1, iv c2, iv c3, rv b1, .val .null, iv (own_val c0), iv (own_val c1), iv (own_val c2), iv (own_val c3), iv (0 : Int32), iv (0 : Int32)] [(.int (0 : Int32))])) (fun _ k_ => XS.iload X20.here hx rfl (hb hby at_160) rfl  k_) ?_
          refine own_stW (T' := T20) (g' := (mkF m 170 #[iv p0, iv p1, iv p2, iv p3, iv p4, iv (4 : Int32), iv (2 : Int32), iv c0, iv c1, iv c2, iv c3, rv b1, .val .null, iv (own_val c0), iv (own_val c1), iv (own_val c2), iv (own_val c3), iv (0 : Int32), iv (0 : Int32)] [])) (fun _ k_ => XS.ifYes X20.here hx rfl (pc0 := 162) (pc' := 170) rfl (hb hby at_162) rfl ((if0 _ _).trans (teq (rfl : (0 : Int32) = (0 : Int32))).1) (by decide) (by decide) k_) ?_
          refine own_stW (T' := T20) (g' := (mkF m 172 #[iv p0, iv p1, iv p2, iv p3, iv p4, iv (4 : Int32), iv (2 : Int32), iv c0, iv c1, iv c2, iv c3, rv b1, .val .null, iv (own_val c0), iv (own_val c1), iv (own_val c2), iv (own_val c3), iv (0 : Int32), iv (0 : Int32)] [.null])) (fun _ k_ => XS.aload X20.here hx rfl (hb hby at_170) rfl rfl  k_) ?_
          refine own_stW (T' := T20) (g' := (mkF m 175 #[iv p0, iv p1, iv p2, iv p3, iv p4, iv (4 : Int32), iv (2 : Int32), iv c0, iv c1, iv c2, iv c3, rv b1, .val .null, iv (own_val c0), iv (own_val c1), iv (own_val c2), iv (own_val c3), iv (0 : Int32), iv (0 : Int32)] [])) (fun _ k_ => XS.ifnonnullNo X20.here hx rfl (hb hby at_172) rfl k_) ?_
          refine own_stW (T' := T20) (g' := (mkF m 176 #[iv p0, iv p1, iv p2, iv p3, iv p4, iv (4 : Int32), iv (2 : Int32), iv c0, iv c1, iv c2, iv c3, rv b1, .val .null, iv (own_val c0), iv (own_val c1), iv (own_val c2), iv (own_val c3), iv (0 : Int32), iv (0 : Int32)] [(.int (1 : Int32))])) (fun _ k_ => XS.iconst X20.here hx rfl (hb hby at_175) k_) ?_
          refine own_stW (T' := T20) (g' := (mkF m 180 #[iv p0, iv p1, iv p2, iv p3, iv p4, iv (4 : Int32), iv (2 : Int32), iv c0, iv c1, iv c2, iv c3, rv b1, .val .null, iv (own_val c0), iv (own_val c1), iv (own_val c2), iv (own_val c3), iv (0 : Int32), iv (0 : Int32)] [(.int (1 : Int32))])) (fun _ k_ => XS.goto X20.here hx rfl (pc0 := 176) (pc' := 180) rfl (hb hby at_176) (by decide) (by decide) k_) ?_
          exact own_retNW X20 hZ1 hS1 (by rw [eq20]; exact (Nat.le_trans (Nat.le_refl _) K4.1)) hEL (by rw [eq20]; exact CR5) hx (t := .boolean) hret (by simp) hlk (hb hby at_180) (by decide) (by decide) ⟨rfl, N20⟩
      · refine own_stW (T' := T20) (g' := (mkF m 125 #[iv p0, iv p1, iv p2, iv p3, iv p4, iv (4 : Int32), iv (2 : Int32), iv c0, iv c1, iv c2, iv c3, rv b1, .val .null, iv (own_val c0), iv (own_val c1), iv (own_val c2), iv (own_val c3), .unset, .unset] [])) (fun _ k_ => XS.ifNo X20.here hx rfl (hb hby at_122) rfl ((if0 _ _).trans (flt hc21).1) k_) ?_
        refine own_stW (T' := T20) (g' := (mkF m 127 #[iv p0, iv p1, iv p2, iv p3, iv p4, iv (4 : Int32), iv (2 : Int32), iv c0, iv c1, iv c2, iv c3, rv b1, .val .null, iv (own_val c0), iv (own_val c1), iv (own_val c2), iv (own_val c3), .unset, .unset] [(.int (own_val c1))])) (fun _ k_ => XS.iload X20.here hx rfl (hb hby at_125) rfl  k_) ?_
        by_cases hc23 : (own_val c1) < (0 : Int32)
        · refine own_stW (T' := T20) (g' := (mkF m 134 #[iv p0, iv p1, iv p2, iv p3, iv p4, iv (4 : Int32), iv (2 : Int32), iv c0, iv c1, iv c2, iv c3, rv b1, .val .null, iv (own_val c0), iv (own_val c1), iv (own_val c2), iv (own_val c3), .unset, .unset] [])) (fun _ k_ => XS.ifYes X20.here hx rfl (pc0 := 127) (pc' := 134) rfl (hb hby at_127) rfl ((if0 _ _).trans (tlt hc23).1) (by decide) (by decide) k_) ?_
          refine own_stW (T' := T20) (g' := (mkF m 135 #[iv p0, iv p1, iv p2, iv p3, iv p4, iv (4 : Int32), iv (2 : Int32), iv c0, iv c1, iv c2, iv c3, rv b1, .val .null, iv (own_val c0), iv (own_val c1), iv (own_val c2), iv (own_val c3), .unset, .unset] [(.int (0 : Int32))])) (fun _ k_ => XS.iconst X20.here hx rfl (hb hby at_134) k_) ?_
          refine own_stW (T' := T20) (g' := (mkF m 137 #[iv p0, iv p1, iv p2, iv p3, iv p4, iv (4 : Int32), iv (2 : Int32), iv c0, iv c1, iv c2, iv c3, rv b1, .val .null, iv (own_val c0), iv (own_val c1), iv (own_val c2), iv (own_val c3), iv (0 : Int32), .unset] [])) (fun _ k_ => XS.istore X20.here hx rfl (hb hby at_135) rfl (l' := #[iv p0, iv p1, iv p2, iv p3, iv p4, iv (4 : Int32), iv (2 : Int32), iv c0, iv c1, iv c2, iv c3, rv b1, .val .null, iv (own_val c0), iv (own_val c1), iv (own_val c2), iv (own_val c3), iv (0 : Int32), .unset]) rfl k_) ?_
          refine own_stW (T' := T20) (g' := (mkF m 139 #[iv p0, iv p1, iv p2, iv p3, iv p4, iv (4 : Int32), iv (2 : Int32), iv c0, iv c1, iv c2, iv c3, rv b1, .val .null, iv (own_val c0), iv (own_val c1), iv (own_val c2), iv (own_val c3), iv (0 : Int32), .unset] [(.int (2 : Int32))])) (fun _ k_ => XS.iload X20.here hx rfl (hb hby at_137) rfl  k_) ?_
          refine own_stW (T' := T20) (g' := (mkF m 140 #[iv p0, iv p1, iv p2, iv p3, iv p4, iv (4 : Int32), iv (2 : Int32), iv c0, iv c1, iv c2, iv c3, rv b1, .val .null, iv (own_val c0), iv (own_val c1), iv (own_val c2), iv (own_val c3), iv (0 : Int32), .unset] [(.int (2 : Int32)), (.int (2 : Int32))])) (fun _ k_ => XS.iconst X20.here hx rfl (hb hby at_139) k_) ?_
          refine own_stW (T' := T20) (g' := (mkF m 143 #[iv p0, iv p1, iv p2, iv p3, iv p4, iv (4 : Int32), iv (2 : Int32), iv c0, iv c1, iv c2, iv c3, rv b1, .val .null, iv (own_val c0), iv (own_val c1), iv (own_val c2), iv (own_val c3), iv (0 : Int32), .unset] [])) (fun _ k_ => XS.icmpNo X20.here hx rfl (hb hby at_140) rfl (flt (by decide : ¬ ((2 : Int32) < (2 : Int32)))).1 k_) ?_
          refine own_stW (T' := T20) (g' := (mkF m 145 #[iv p0, iv p1, iv p2, iv p3, iv p4, iv (4 : Int32), iv (2 : Int32), iv c0, iv c1, iv c2, iv c3, rv b1, .val .null, iv (own_val c0), iv (own_val c1), iv (own_val c2), iv (own_val c3), iv (0 : Int32), .unset] [(.int (own_val c2))])) (fun _ k_ => XS.iload X20.here hx rfl (hb hby at_143) rfl  k_) ?_
          by_cases hc24 : (own_val c2) < (0 : Int32)
          · refine own_stW (T' := T20) (g' := (mkF m 157 #[iv p0, iv p1, iv p2, iv p3, iv p4, iv (4 : Int32), iv (2 : Int32), iv c0, iv c1, iv c2, iv c3, rv b1, .val .null, iv (own_val c0), iv (own_val c1), iv (own_val c2), iv (own_val c3), iv (0 : Int32), .unset] [])) (fun _ k_ => XS.ifYes X20.here hx rfl (pc0 := 145) (pc' := 157) rfl (hb hby at_145) rfl ((if0 _ _).trans (tlt hc24).1) (by decide) (by decide) k_) ?_
            refine own_stW (T' := T20) (g' := (mkF m 158 #[iv p0, iv p1, iv p2, iv p3, iv p4, iv (4 : Int32), iv (2 : Int32), iv c0, iv c1, iv c2, iv c3, rv b1, .val .null, iv (own_val c0), iv (own_val c1), iv (own_val c2), iv (own_val c3), iv (0 : Int32), .unset] [(.int (0 : Int32))])) (fun _ k_ => XS.iconst X20.here hx rfl (hb hby at_157) k_) ?_
            refine own_stW (T' := T20) (g' := (mkF m 160 #[iv p0, iv p1, iv p2, iv p3, iv p4, iv (4 : Int32), iv (2 : Int32), iv c0, iv c1, iv c2, iv c3, rv b1, .val .null, iv (own_val c0), iv (own_val c1), iv (own_val c2), iv (own_val c3), iv (0 : Int32), iv (0 : Int32)] [])) (fun _ k_ => XS.istore X20.here hx rfl (hb hby at_158) rfl (l' := #[iv p0, iv p1, iv p2, iv p3, iv p4, iv (4 : Int32), iv (2 : Int32), iv c0, iv c1, iv c2, iv c3, rv b1, .val .null, iv (own_val c0), iv (own_val c1), iv (own_val c2), iv (own_val c3), iv (0 : Int32), iv (0 : Int32)]) rfl k_) ?_
            refine own_stW (T' := T20) (g' := (mkF m 162 #[iv p0, iv p1, iv p2, iv p3, iv p4, iv (4 : Int32), iv (2 : Int32), iv c0, iv c1, iv c2, iv c3, rv b1, .val .null, iv (own_val c0), iv (own_val c1), iv (own_val c2), iv (own_val c3), iv (0 : Int32), iv (0 : Int32)] [(.int (0 : Int32))])) (fun _ k_ => XS.iload X20.here hx rfl (hb hby at_160) rfl  k_) ?_
            refine own_stW (T' := T20) (g' := (mkF m 170 #[iv p0, iv p1, iv p2, iv p3, iv p4, iv (4 : Int32), iv (2 : Int32), iv c0, iv c1, iv c2, iv c3, rv b1, .val .null, iv (own_val c0), iv (own_val c1), iv (own_val c2), iv (own_val c3), iv (0 : Int32), iv (0 : Int32)] [])) (fun _ k_ => XS.ifYes X20.here hx rfl (pc0 := 162) (pc' := 170) rfl (hb hby at_162) rfl ((if0 _ _).trans (teq (rfl : (0 : Int32) = (0 : Int32))).1) (by decide) (by decide) k_) ?_
            refine own_stW (T' := T20) (g' := (mkF m 172 #[iv p0, iv p1, iv p2, iv p3, iv p4, iv (4 : Int32), iv (2 : Int32), iv c0, iv c1, iv c2, iv c3, rv b1, .val .null, iv (own_val c0), iv (own_val c1), iv (own_val c2), iv (own_val c3), iv (0 : Int32), iv (0 : Int32)] [.null])) (fun _ k_ => XS.aload X20.here hx rfl (hb hby at_170) rfl rfl  k_) ?_
            refine own_stW (T' := T20) (g' := (mkF m 175 #[iv p0, iv p1, iv p2, iv p3, iv p4, iv (4 : Int32), iv (2 : Int32), iv c0, iv c1, iv c2, iv c3, rv b1, .val .null, iv (own_val c0), iv (own_val c1), iv (own_val c2), iv (own_val c3), iv (0 : Int32), iv (0 : Int32)] [])) (fun _ k_ => XS.ifnonnullNo X20.here hx rfl (hb hby at_172) rfl k_) ?_
            refine own_stW (T' := T20) (g' := (mkF m 176 #[iv p0, iv p1, iv p2, iv p3, iv p4, iv (4 : Int32), iv (2 : Int32), iv c0, iv c1, iv c2, iv c3, rv b1, .val .null, iv (own_val c0), iv (own_val c1), iv (own_val c2), iv (own_val c3), iv (0 : Int32), iv (0 : Int32)] [(.int (1 : Int32))])) (fun _ k_ => XS.iconst X20.here hx rfl (hb hby at_175) k_) ?_
            refine own_stW (T' := T20) (g' := (mkF m 180 #[iv p0, iv p1, iv p2, iv p3, iv p4, iv (4 : Int32), iv (2 : Int32), iv c0, iv c1, iv c2, iv c3, rv b1, .val .null, iv (own_val c0), iv (own_val c1), iv (own_val c2), iv (own_val c3), iv (0 : Int32), iv (0 : Int32)] [(.int (1 : Int32))])) (fun _ k_ => XS.goto X20.here hx rfl (pc0 := 176) (pc' := 180) rfl (hb hby at_176) (by decide) (by decide) k_) ?_
            exact own_retNW X20 hZ1 hS1 (by rw [eq20]; exact (Nat.le_trans (Nat.le_refl _) K4.1)) hEL (by rw [eq20]; exact CR5) hx (t := .boolean) hret (by simp) hlk (hb hby at_180) (by decide) (by decide) ⟨rfl, N20⟩
          · refine own_stW (T' := T20) (g' := (mkF m 148 #[iv p0, iv p1, iv p2, iv p3, iv p4, iv (4 : Int32), iv (2 : Int32), iv c0, iv c1, iv c2, iv c3, rv b1, .val .null, iv (own_val c0), iv (own_val c1), iv (own_val c2), iv (own_val c3), iv (0 : Int32), .unset] [])) (fun _ k_ => XS.ifNo X20.here hx rfl (hb hby at_145) rfl ((if0 _ _).trans (flt hc24).1) k_) ?_
            refine own_stW (T' := T20) (g' := (mkF m 150 #[iv p0, iv p1, iv p2, iv p3, iv p4, iv (4 : Int32), iv (2 : Int32), iv c0, iv c1, iv c2, iv c3, rv b1, .val .null, iv (own_val c0), iv (own_val c1), iv (own_val c2), iv (own_val c3), iv (0 : Int32), .unset] [(.int (own_val c3))])) (fun _ k_ => XS.iload X20.here hx rfl (hb hby at_148) rfl  k_) ?_
            refine own_stW (T' := T20) (g' := (mkF m 157 #[iv p0, iv p1, iv p2, iv p3, iv p4, iv (4 : Int32), iv (2 : Int32), iv c0, iv c1, iv c2, iv c3, rv b1, .val .null, iv (own_val c0), iv (own_val c1), iv (own_val c2), iv (own_val c3), iv (0 : Int32), .unset] [])) (fun _ k_ => XS.ifYes X20.here hx rfl (pc0 := 150) (pc' := 157) rfl (hb hby at_150) rfl ((if0 _ _).trans (tlt ((own_or2 hbad hc24) : (own_val c3) < (0 : Int32))).1) (by decide) (by decide) k_) ?_
            refine own_stW (T' := T20) (g' := (mkF m 158 #[iv p0, iv p1, iv p2, iv p3, iv p4, iv (4 : Int32), iv (2 : Int32), iv c0, iv c1, iv c2, iv c3, rv b1, .val .null, iv (own_val c0), iv (own_val c1), iv (own_val c2), iv (own_val c3), iv (0 : Int32), .unset] [(.int (0 : Int32))])) (fun _ k_ => XS.iconst X20.here hx rfl (hb hby at_157) k_) ?_
            refine own_stW (T' := T20) (g' := (mkF m 160 #[iv p0, iv p1, iv p2, iv p3, iv p4, iv (4 : Int32), iv (2 : Int32), iv c0, iv c1, iv c2, iv c3, rv b1, .val .null, iv (own_val c0), iv (own_val c1), iv (own_val c2), iv (own_val c3), iv (0 : Int32), iv (0 : Int32)] [])) (fun _ k_ => XS.istore X20.here hx rfl (hb hby at_158) rfl (l' := #[iv p0, iv p1, iv p2, iv p3, iv p4, iv (4 : Int32), iv (2 : Int32), iv c0, iv c1, iv c2, iv c3, rv b1, .val .null, iv (own_val c0), iv (own_val c1), iv (own_val c2), iv (own_val c3), iv (0 : Int32), iv (0 : Int32)]) rfl k_) ?_
            refine own_stW (T' := T20) (g' := (mkF m 162 #[iv p0, iv p1, iv p2, iv p3, iv p4, iv (4 : Int32), iv (2 : Int32), iv c0, iv c1, iv c2, iv c3, rv b1, .val .null, iv (own_val c0), iv (own_val c1), iv (own_val c2), iv (own_val c3), iv (0 : Int32), iv (0 : Int32)] [(.int (0 : Int32))])) (fun _ k_ => XS.iload X20.here hx rfl (hb hby at_160) rfl  k_) ?_
            refine own_stW (T' := T20) (g' := (mkF m 170 #[iv p0, iv p1, iv p2, iv p3, iv p4, iv (4 : Int32), iv (2 : Int32), iv c0, iv c1, iv c2, iv c3, rv b1, .val .null, iv (own_val c0), iv (own_val c1), iv (own_val c2), iv (own_val c3), iv (0 : Int32), iv (0 : Int32)] [])) (fun _ k_ => XS.ifYes X20.here hx rfl (pc0 := 162) (pc' := 170) rfl (hb hby at_162) rfl ((if0 _ _).trans (teq (rfl : (0 : Int32) = (0 : Int32))).1) (by decide) (by decide) k_) ?_
            refine own_stW (T' := T20) (g' := (mkF m 172 #[iv p0, iv p1, iv p2, iv p3, iv p4, iv (4 : Int32), iv (2 : Int32), iv c0, iv c1, iv c2, iv c3, rv b1, .val .null, iv (own_val c0), iv (own_val c1), iv (own_val c2), iv (own_val c3), iv (0 : Int32), iv (0 : Int32)] [.null])) (fun _ k_ => XS.aload X20.here hx rfl (hb hby at_170) rfl rfl  k_) ?_
            refine own_stW (T' := T20) (g' := (mkF m 175 #[iv p0, iv p1, iv p2, iv p3, iv p4, iv (4 : Int32), iv (2 : Int32), iv c0, iv c1, iv c2, iv c3, rv b1, .val .null, iv (own_val c0), iv (own_val c1), iv (own_val c2), iv (own_val c3), iv (0 : Int32), iv (0 : Int32)] [])) (fun _ k_ => XS.ifnonnullNo X20.here hx rfl (hb hby at_172) rfl k_) ?_
            refine own_stW (T' := T20) (g' := (mkF m 176 #[iv p0, iv p1, iv p2, iv p3, iv p4, iv (4 : Int32), iv (2 : Int32), iv c0, iv c1, iv c2, iv c3, rv b1, .val .null, iv (own_val c0), iv (own_val c1), iv (own_val c2), iv (own_val c3), iv (0 : Int32), iv (0 : Int32)] [(.int (1 : Int32))])) (fun _ k_ => XS.iconst X20.here hx rfl (hb hby at_175) k_) ?_
            refine own_stW (T' := T20) (g' := (mkF m 180 #[iv p0, iv p1, iv p2, iv p3, iv p4, iv (4 : Int32), iv (2 : Int32), iv c0, iv c1, iv c2, iv c3, rv b1, .val .null, iv (own_val c0), iv (own_val c1), iv (own_val c2), iv (own_val c3), iv (0 : Int32), iv (0 : Int32)] [(.int (1 : Int32))])) (fun _ k_ => XS.goto X20.here hx rfl (pc0 := 176) (pc' := 180) rfl (hb hby at_176) (by decide) (by decide) k_) ?_
            exact own_retNW X20 hZ1 hS1 (by rw [eq20]; exact (Nat.le_trans (Nat.le_refl _) K4.1)) hEL (by rw [eq20]; exact CR5) hx (t := .boolean) hret (by simp) hlk (hb hby at_180) (by decide) (by decide) ⟨rfl, N20⟩
        · refine own_stW (T' := T20) (g' := (mkF m 130 #[iv p0, iv p1, iv p2, iv p3, iv p4, iv (4 : Int32), iv (2 : Int32), iv c0, iv c1, iv c2, iv c3, rv b1, .val .null, iv (own_val c0), iv (own_val c1), iv (own_val c2), iv (own_val c3), .unset, .unset] [])) (fun _ k_ => XS.ifNo X20.here hx rfl (hb hby at_127) rfl ((if0 _ _).trans (flt hc23).1) k_) ?_
          refine own_stW (T' := T20) (g' := (mkF m 131 #[iv p0, iv p1, iv p2, iv p3, iv p4, iv (4 : Int32), iv (2 : Int32), iv c0, iv c1, iv c2, iv c3, rv b1, .val .null, iv (own_val c0), iv (own_val c1), iv (own_val c2), iv (own_val c3), .unset, .unset] [(.int (1 : Int32))])) (fun _ k_ => XS.iconst X20.here hx rfl (hb hby at_130) k_) ?_
          refine own_stW (T' := T20) (g' := (mkF m 135 #[iv p0, iv p1, iv p2, iv p3, iv p4, iv (4 : Int32), iv (2 : Int32), iv c0, iv c1, iv c2, iv c3, rv b1, .val .null, iv (own_val c0), iv (own_val c1), iv (own_val c2), iv (own_val c3), .unset, .unset] [(.int (1 : Int32))])) (fun _ k_ => XS.goto X20.here hx rfl (pc0 := 131) (pc' := 135) rfl (hb hby at_131) (by decide) (by decide) k_) ?_
          refine own_stW (T' := T20) (g' := (mkF m 137 #[iv p0, iv p1, iv p2, iv p3, iv p4, iv (4 : Int32), iv (2 : Int32), iv c0, iv c1, iv c2, iv c3, rv b1, .val .null, iv (own_val c0), iv (own_val c1), iv (own_val c2), iv (own_val c3), iv (1 : Int32), .unset] [])) (fun _ k_ => XS.istore X20.here hx rfl (hb hby at_135) rfl (l' := #[iv p0, iv p1, iv p2, iv p3, iv p4, iv (4 : Int32), iv (2 : Int32), iv c0, iv c1, iv c2, iv c3, rv b1, .val .null, iv (own_val c0), iv (own_val c1), iv (own_val c2), iv (own_val c3), iv (1 : Int32), .unset]) rfl k_) ?_
          refine own_stW (T' := T20) (g' := (mkF m 139 #[iv p0, iv p1, iv p2, iv p3, iv p4, iv (4 : Int32), iv (2 : Int32), iv c0, iv c1, iv c2, iv c3, rv b1, .val .null, iv (own_val c0), iv (own_val c1), iv (own_val c2), iv (own_val c3), iv (1 : Int32), .unset] [(.int (2 : Int32))])) (fun _ k_ => XS.iload X20.here hx rfl (hb hby at_137) rfl  k_) ?_
          refine own_stW (T' := T20) (g' := (mkF m 140 #[iv p0, iv p1, iv p2, iv p3, iv p4, iv (4 : Int32), iv (2 : Int32), iv c0, iv c1, iv c2, iv c3, rv b1, .val .null, iv (own_val c0), iv (own_val c1), iv (own_val c2), iv (own_val c3), iv (1 : Int32), .unset] [(.int (2 : Int32)), (.int (2 : Int32))])) (fun _ k_ => XS.iconst X20.here hx rfl (hb hby at_139) k_) ?_
          refine own_stW (T' := T20) (g' := (mkF m 143 #[iv p0, iv p1, iv p2, iv p3, iv p4, iv (4 : Int32), iv (2 : Int32), iv c0, iv c1, iv c2, iv c3, rv b1, .val .null, iv (own_val c0), iv (own_val c1), iv (own_val c2), iv (own_val c3), iv (1 : Int32), .unset] [])) (fun _ k_ => XS.icmpNo X20.here hx rfl (hb hby at_140) rfl (flt (by decide : ¬ ((2 : Int32) < (2 : Int32)))).1 k_) ?_
          refine own_stW (T' := T20) (g' := (mkF m 145 #[iv p0, iv p1, iv p2, iv p3, iv p4, iv (4 : Int32), iv (2 : Int32), iv c0, iv c1, iv c2, iv c3, rv b1, .val .null, iv (own_val c0), iv (own_val c1), iv (own_val c2), iv (own_val c3), iv (1 : Int32), .unset] [(.int (own_val c2))])) (fun _ k_ => XS.iload X20.here hx rfl (hb hby at_143) rfl  k_) ?_
          by_cases hc25 : (own_val c2) < (0 : Int32)
          · refine own_stW (T' := T20) (g' := (mkF m 157 #[iv p0, iv p1, iv p2, iv p3, iv p4, iv (4 : Int32), iv (2 : Int32), iv c0, iv c1, iv c2, iv c3, rv b1, .val .null, iv (own_val c0), iv (own_val c1), iv (own_val c2), iv (own_val c3), iv (1 : Int32), .unset] [])) (fun _ k_ => XS.ifYes X20.here hx rfl (pc0 := 145) (pc' := 157) rfl (hb hby at_145) rfl ((if0 _ _).trans (tlt hc25).1) (by decide) (by decide) k_) ?_
            refine own_stW (T' := T20) (g' := (mkF m 158 #[iv p0, iv p1, iv p2, iv p3, iv p4, iv (4 : Int32), iv (2 : Int32), iv c0, iv c1, iv c2, iv c3, rv b1, .val .null, iv (own_val c0), iv (own_val c1), iv (own_val c2), iv (own_val c3), iv (1 : Int32), .unset] [(.int (0 : Int32))])) (fun _ k_ => XS.iconst X20.here hx rfl (hb hby at_157) k_) ?_
            refine own_stW (T' := T20) (g' := (mkF m 160 #[iv p0, iv p1, iv p2, iv p3, iv p4, iv (4 : Int32), iv (2 : Int32), iv c0, iv c1, iv c2, iv c3, rv b1, .val .null, iv (own_val c0), iv (own_val c1), iv (own_val c2), iv (own_val c3), iv (1 : Int32), iv (0 : Int32)] [])) (fun _ k_ => XS.istore X20.here hx rfl (hb hby at_158) rfl (l' := #[iv p0, iv p1, iv p2, iv p3, iv p4, iv (4 : Int32), iv (2 : Int32), iv c0, iv c1, iv c2, iv c3, rv b1, .val .null, iv (own_val c0), iv (own_val c1), iv (own_val c2), iv (own_val c3), iv (1 : Int32), iv (0 : Int32)]) rfl k_) ?_
            refine own_stW (T' := T20) (g' := (mkF m 162 #[iv p0, iv p1, iv p2, iv p3, iv p4, iv (4 : Int32), iv (2 : Int32), iv c0, iv c1, iv c2, iv c3, rv b1, .val .null, iv (own_val c0), iv (own_val c1), iv (own_val c2), iv (own_val c3), iv (1 : Int32), iv (0 : Int32)] [(.int (1 : Int32))])) (fun _ k_ => XS.iload X20.here hx rfl (hb hby at_160) rfl  k_) ?_
            refine own_stW (T' := T20) (g' := (mkF m 165 #[iv p0, iv p1, iv p2, iv p3, iv p4, iv (4 : Int32), iv (2 : Int32), iv c0, iv c1, iv c2, iv c3, rv b1, .val .null, iv (own_val c0), iv (own_val c1), iv (own_val c2), iv (own_val c3), iv (1 : Int32), iv (0 : Int32)] [])) (fun _ k_ => XS.ifNo X20.here hx rfl (hb hby at_162) rfl ((if0 _ _).trans (feq (by decide : ¬ ((1 : Int32) = (0 : Int32)))).1) k_) ?_
            refine own_stW (T' := T20) (g' := (mkF m 167 #[iv p0, iv p1, iv p2, iv p3, iv p4, iv (4 : Int32), iv (2 : Int32), iv c0, iv c1, iv c2, iv c3, rv b1, .val .null, iv (own_val c0), iv (own_val c1), iv (own_val c2), iv (own_val c3), iv (1 : Int32), iv (0 : Int32)] [(.int (0 : Int32))])) (fun _ k_ => XS.iload X20.here hx rfl (hb hby at_165) rfl  k_) ?_
            refine own_stW (T' := T20) (g' := (mkF m 170 #[iv p0, iv p1, iv p2, iv p3, iv p4, iv (4 : Int32), iv (2 : Int32), iv c0, iv c1, iv c2, iv c3, rv b1, .val .null, iv (own_val c0), iv (own_val c1), iv (own_val c2), iv (own_val c3), iv (1 : Int32), iv (0 : Int32)] [])) (fun _ k_ => XS.ifNo X20.here hx rfl (hb hby at_167) rfl ((if0 _ _).trans (teq (rfl : (0 : Int32) = (0 : Int32))).2) k_) ?_
            refine own_stW (T' := T20) (g' := (mkF m 172 #[iv p0, iv p1, iv p2, iv p3, iv p4, iv (4 : Int32), iv (2 : Int32), iv c0, iv c1, iv c2, iv c3, rv b1, .val .null, iv (own_val c0), iv (own_val c1), iv (own_val c2), iv (own_val c3), iv (1 : Int32), iv (0 : Int32)] [.null])) (fun _ k_ => XS.aload X20.here hx rfl (hb hby at_170) rfl rfl  k_) ?_
            refine own_stW (T' := T20) (g' := (mkF m 175 #[iv p0, iv p1, iv p2, iv p3, iv p4, iv (4 : Int32), iv (2 : Int32), iv c0, iv c1, iv c2, iv c3, rv b1, .val .null, iv (own_val c0), iv (own_val c1), iv (own_val c2), iv (own_val c3), iv (1 : Int32), iv (0 : Int32)] [])) (fun _ k_ => XS.ifnonnullNo X20.here hx rfl (hb hby at_172) rfl k_) ?_
            refine own_stW (T' := T20) (g' := (mkF m 176 #[iv p0, iv p1, iv p2, iv p3, iv p4, iv (4 : Int32), iv (2 : Int32), iv c0, iv c1, iv c2, iv c3, rv b1, .val .null, iv (own_val c0), iv (own_val c1), iv (own_val c2), iv (own_val c3), iv (1 : Int32), iv (0 : Int32)] [(.int (1 : Int32))])) (fun _ k_ => XS.iconst X20.here hx rfl (hb hby at_175) k_) ?_
            refine own_stW (T' := T20) (g' := (mkF m 180 #[iv p0, iv p1, iv p2, iv p3, iv p4, iv (4 : Int32), iv (2 : Int32), iv c0, iv c1, iv c2, iv c3, rv b1, .val .null, iv (own_val c0), iv (own_val c1), iv (own_val c2), iv (own_val c3), iv (1 : Int32), iv (0 : Int32)] [(.int (1 : Int32))])) (fun _ k_ => XS.goto X20.here hx rfl (pc0 := 176) (pc' := 180) rfl (hb hby at_176) (by decide) (by decide) k_) ?_
            exact own_retNW X20 hZ1 hS1 (by rw [eq20]; exact (Nat.le_trans (Nat.le_refl _) K4.1)) hEL (by rw [eq20]; exact CR5) hx (t := .boolean) hret (by simp) hlk (hb hby at_180) (by decide) (by decide) ⟨rfl, N20⟩
          · refine own_stW (T' := T20) (g' := (mkF m 148 #[iv p0, iv p1, iv p2, iv p3, iv p4, iv (4 : Int32), iv (2 : Int32), iv c0, iv c1, iv c2, iv c3, rv b1, .val .null, iv (own_val c0), iv (own_val c1), iv (own_val c2), iv (own_val c3), iv (1 : Int32), .unset] [])) (fun _ k_ => XS.ifNo X20.here hx rfl (hb hby at_145) rfl ((if0 _ _).trans (flt hc25).1) k_) ?_
            refine own_stW (T' := T20) (g' := (mkF m 150 #[iv p0, iv p1, iv p2, iv p3, iv p4, iv (4 : Int32), iv (2 : Int32), iv c0, iv c1, iv c2, iv c3, rv b1, .val .null, iv (own_val c0), iv (own_val c1), iv (own_val c2), iv (own_val c3), iv (1 : Int32), .unset] [(.int (own_val c3))])) (fun _ k_ => XS.iload X20.here hx rfl (hb hby at_148) rfl  k_) ?_
            refine own_stW (T' := T20) (g' := (mkF m 157 #[iv p0, iv p1, iv p2, iv p3, iv p4, iv (4 : Int32), iv (2 : Int32), iv c0, iv c1, iv c2, iv c3, rv b1, .val .null, iv (own_val c0), iv (own_val c1), iv (own_val c2), iv (own_val c3), iv (1 : Int32), .unset] [])) (fun _ k_ => XS.ifYes X20.here hx rfl (pc0 := 150) (pc' := 157) rfl (hb hby at_150) rfl ((if0 _ _).trans (tlt ((own_or2 hbad hc25) : (own_val c3) < (0 : Int32))).1) (by decide) (by decide) k_) ?_
            refine own_stW (T' := T20) (g' := (mkF m 158 #[iv p0, iv p1, iv p2, iv p3, iv p4, iv (4 : Int32), iv (2 : Int32), iv c0, iv c1, iv c2, iv c3, rv b1, .val .null, iv (own_val c0), iv (own_val c1), iv (own_val c2), iv (own_val c3), iv (1 : Int32), .unset] [(.int (0 : Int32))])) (fun _ k_ => XS.iconst X20.here hx rfl (hb hby at_157) k_) ?_
            refine own_stW (T' := T20) (g' := (mkF m 160 #[iv p0, iv p1, iv p2, iv p3, iv p4, iv (4 : Int32), iv (2 : Int32), iv c0, iv c1, iv c2, iv c3, rv b1, .val .null, iv (own_val c0), iv (own_val c1), iv (own_val c2), iv (own_val c3), iv (1 : Int32), iv (0 : Int32)] [])) (fun _ k_ => XS.istore X20.here hx rfl (hb hby at_158) rfl (l' := #[iv p0, iv p1, iv p2, iv p3, iv p4, iv (4 : Int32), iv (2 : Int32), iv c0, iv c1, iv c2, iv c3, rv b1, .val .null, iv (own_val c0), iv (own_val c1), iv (own_val c2), iv (own_val c3), iv (1 : Int32), iv (0 : Int32)]) rfl k_) ?_
            refine own_stW (T' := T20) (g' := (mkF m 162 #[iv p0, iv p1, iv p2, iv p3, iv p4, iv (4 : Int32), iv (2 : Int32), iv c0, iv c1, iv c2, iv c3, rv b1, .val .null, iv (own_val c0), iv (own_val c1), iv (own_val c2), iv (own_val c3), iv (1 : Int32), iv (0 : Int32)] [(.int (1 : Int32))])) (fun _ k_ => XS.iload X20.here hx rfl (hb hby at_160) rfl  k_) ?_
            refine own_stW (T' := T20) (g' := (mkF m 165 #[iv p0, iv p1, iv p2, iv p3, iv p4, iv (4 : Int32), iv (2 : Int32), iv c0, iv c1, iv c2, iv c3, rv b1, .val .null, iv (own_val c0), iv (own_val c1), iv (own_val c2), iv (own_val c3), iv (1 : Int32), iv (0 : Int32)] [])) (fun _ k_ => XS.ifNo X20.here hx rfl (hb hby at_162) rfl ((if0 _ _).trans (feq (by decide : ¬ ((1 : Int32) = (0 : Int32)))).1) k_) ?_
            refine own_stW (T' := T20) (g' := (mkF m 167 #[iv p0, iv p1, iv p2, iv p3, iv p4, iv (4 : Int32), iv (2 : Int32), iv c0, iv c1, iv c2, iv c3, rv b1, .val .null, iv (own_val c0), iv (own_val c1), iv (own_val c2), iv (own_val c3), iv (1 : Int32), iv (0 : Int32)] [(.int (0 : Int32))])) (fun _ k_ => XS.iload X20.here hx rfl (hb hby at_165) rfl  k_) ?_
            refine own_stW (T' := T20) (g' := (mkF m 170 #[iv p0, iv p1, iv p2, iv p3, iv p4, iv (4 : Int32), iv (2 : Int32), iv c0, iv c1, iv c2, iv c3, rv b1, .val .null, iv (own_val c0), iv (own_val c1), iv (own_val c2), iv (own_val c3), iv (1 : Int32), iv (0 : Int32)] [])) (fun _ k_ => XS.ifNo X20.here hx rfl (hb hby at_167) rfl ((if0 _ _).trans (teq (rfl : (0 : Int32) = (0 : Int32))).2) k_) ?_
            refine own_stW (T' := T20) (g' := (mkF m 172 #[iv p0, iv p1, iv p2, iv p3, iv p4, iv (4 : Int32), iv (2 : Int32), iv c0, iv c1, iv c2, iv c3, rv b1, .val .null, iv (own_val c0), iv (own_val c1), iv (own_val c2), iv (own_val c3), iv (1 : Int32), iv (0 : Int32)] [.null])) (fun _ k_ => XS.aload X20.here hx rfl (hb hby at_170) rfl rfl  k_) ?_
            refine own_stW (T' := T20) (g' := (mkF m 175 #[iv p0, iv p1, iv p2, iv p3, iv p4, iv (4 : Int32), iv (2 : Int32), iv c0, iv c1, iv c2, iv c3, rv b1, .val .null, iv (own_val c0), iv (own_val c1), iv (own_val c2), iv (own_val c3), iv (1 : Int32), iv (0 : Int32)] [])) (fun _ k_ => XS.ifnonnullNo X20.here hx rfl (hb hby at_172) rfl k_) ?_
            refine own_stW (T' := T20) (g' := (mkF m 176 #[iv p0, iv p1, iv p2, iv p3, iv p4, iv (4 : Int32), iv (2 : Int32), iv c0, iv c1, iv c2, iv c3, rv b1, .val .null, iv (own_val c0), iv (own_val c1), iv (own_val c2), iv (own_val c3), iv (1 : Int32), iv (0 : Int32)] [(.int (1 : Int32))])) (fun _ k_ => XS.iconst X20.here hx rfl (hb hby at_175) k_) ?_
            refine own_stW (T' := T20) (g' := (mkF m 180 #[iv p0, iv p1, iv p2, iv p3, iv p4, iv (4 : Int32), iv (2 : Int32), iv c0, iv c1, iv c2, iv c3, rv b1, .val .null, iv (own_val c0), iv (own_val c1), iv (own_val c2), iv (own_val c3), iv (1 : Int32), iv (0 : Int32)] [(.int (1 : Int32))])) (fun _ k_ => XS.goto X20.here hx rfl (pc0 := 176) (pc' := 180) rfl (hb hby at_176) (by decide) (by decide) k_) ?_
            exact own_retNW X20 hZ1 hS1 (by rw [eq20]; exact (Nat.le_trans (Nat.le_refl _) K4.1)) hEL (by rw [eq20]; exact CR5) hx (t := .boolean) hret (by simp) hlk (hb hby at_180) (by decide) (by decide) ⟨rfl, N20⟩
  · obtain ⟨rfl, fr4⟩ := xq4_ok hbad
    refine own_stW (T' := T4) (g' := (mkF m 66 #[iv p0, iv p1, iv p2, iv p3, iv p4, iv (4 : Int32), iv (2 : Int32), iv c0, iv c1, iv c2, iv c3, rv b1, rv b4, .unset, .unset, .unset, .unset, .unset, .unset] [])) (fun _ k_ => XS.astore X4.here hx rfl (hb hby at_64) rfl rfl (l' := #[iv p0, iv p1, iv p2, iv p3, iv p4, iv (4 : Int32), iv (2 : Int32), iv c0, iv c1, iv c2, iv c3, rv b1, rv b4, .unset, .unset, .unset, .unset, .unset, .unset]) rfl k_) ?_
    refine own_stW (T' := T4) (g' := (mkF m 68 #[iv p0, iv p1, iv p2, iv p3, iv p4, iv (4 : Int32), iv (2 : Int32), iv c0, iv c1, iv c2, iv c3, rv b1, rv b4, .unset, .unset, .unset, .unset, .unset, .unset] [(.int (4 : Int32))])) (fun _ k_ => XS.iload X4.here hx rfl (hb hby at_66) rfl  k_) ?_
    refine own_stW (T' := T4) (g' := (mkF m 69 #[iv p0, iv p1, iv p2, iv p3, iv p4, iv (4 : Int32), iv (2 : Int32), iv c0, iv c1, iv c2, iv c3, rv b1, rv b4, .unset, .unset, .unset, .unset, .unset, .unset] [(.int (2 : Int32)), (.int (4 : Int32))])) (fun _ k_ => XS.iconst X4.here hx rfl (hb hby at_68) k_) ?_
    refine own_stW (T' := T4) (g' := (mkF m 71 #[iv p0, iv p1, iv p2, iv p3, iv p4, iv (4 : Int32), iv (2 : Int32), iv c0, iv c1, iv c2, iv c3, rv b1, rv b4, .unset, .unset, .unset, .unset, .unset, .unset] [(.int (2 : Int32)), (.int (2 : Int32)), (.int (4 : Int32))])) (fun _ k_ => XS.iload X4.here hx rfl (hb hby at_69) rfl  k_) ?_
    refine own_stW (T' := T4) (g' := (mkF m 72 #[iv p0, iv p1, iv p2, iv p3, iv p4, iv (4 : Int32), iv (2 : Int32), iv c0, iv c1, iv c2, iv c3, rv b1, rv b4, .unset, .unset, .unset, .unset, .unset, .unset] [(.int (4 : Int32)), (.int (4 : Int32))])) (fun _ k_ => XS.imul X4.here hx rfl (hb hby at_71) rfl k_) ?_
    refine own_stW (T' := T4) (g' := (mkF m 86 #[iv p0, iv p1, iv p2, iv p3, iv p4, iv (4 : Int32), iv (2 : Int32), iv c0, iv c1, iv c2, iv c3, rv b1, rv b4, .unset, .unset, .unset, .unset, .unset, .unset] [])) (fun _ k_ => XS.icmpYes X4.here hx rfl (pc0 := 72) (pc' := 86) rfl (hb hby at_72) rfl (teq (rfl : (4 : Int32) = (4 : Int32))).1 (by decide) (by decide) k_) ?_
    refine own_stW (T' := T4) (g' := (mkF m 88 #[iv p0, iv p1, iv p2, iv p3, iv p4, iv (4 : Int32), iv (2 : Int32), iv c0, iv c1, iv c2, iv c3, rv b1, rv b4, .unset, .unset, .unset, .unset, .unset, .unset] [(.int c0)])) (fun _ k_ => XS.iload X4.here hx rfl (hb hby at_86) rfl  k_) ?_
    have f26 : Old Z n0 T4.heap := f3.keep K4 all0
    obtain ⟨_, T27, L27, X27, hQ27, st27⟩ := own_callS X4 hx (y := own_m7) hown1 (mvT hZ1 (hw _ (List.mem_of_getElem? (i := 44) rfl))) (mvT hZ1 (hw _ (List.mem_of_getElem? (i := 45) rfl))) (mvT hZ1 (hw _ (List.mem_of_getElem? (i := 2) rfl))) (mvT hZ1 (hw _ (List.mem_of_getElem? (i := 46) rfl))) (by decide) (backOf (W := 0) (rm_val l Z a0 hw [] c0 T4.heap n0 f26) hZ1 (hw _ (List.mem_of_getElem? (i := 46) rfl)) (hw _ (List.mem_of_getElem? (i := 2) rfl)) (by decide) (by decide)) (g := (mkF m 88 #[iv p0, iv p1, iv p2, iv p3, iv p4, iv (4 : Int32), iv (2 : Int32), iv c0, iv c1, iv c2, iv c3, rv b1, rv b4, .unset, .unset, .unset, .unset, .unset, .unset] [(.int c0)])) rfl (by rw [hml]; rfl) (argsL := [(.int c0)]) (rest := []) (lenOf pd__C_I rfl) rfl (by show 2 * 0 + _ ≤ _; exact Nat.le_of_eq rfl) (hb hby at_88) rfl rfl (by decide) (by decide) (c' := 15) (s' := 286) rfl rfl
    obtain ⟨rfl, Nq27, eq27⟩ := hQ27
    have N27 := Fr.app N4 Nq27
    refine own_stW (T' := T27) (g' := (mkF m 91 #[iv p0, iv p1, iv p2, iv p3, iv p4, iv (4 : Int32), iv (2 : Int32), iv c0, iv c1, iv c2, iv c3, rv b1, rv b4, .unset, .unset, .unset, .unset, .unset, .unset] [(.int (own_val c0))])) st27 ?_
    clear st27
    refine own_stW (T' := T27) (g' := (mkF m 93 #[iv p0, iv p1, iv p2, iv p3, iv p4, iv (4 : Int32), iv (2 : Int32), iv c0, iv c1, iv c2, iv c3, rv b1, rv b4, iv (own_val c0), .unset, .unset, .unset, .unset, .unset] [])) (fun _ k_ => XS.istore X27.here hx rfl (hb hby at_91) rfl (l' := #[iv p0, iv p1, iv p2, iv p3, iv p4, iv (4 : Int32), iv (2 : Int32), iv c0, iv c1, iv c2, iv c3, rv b1, rv b4, iv (own_val c0), .unset, .unset, .unset, .unset, .unset]) rfl k_) ?_
    refine own_stW (T' := T27) (g' := (mkF m 95 #[iv p0, iv p1, iv p2, iv p3, iv p4, iv (4 : Int32), iv (2 : Int32), iv c0, iv c1, iv c2, iv c3, rv b1, rv b4, iv (own_val c0), .unset, .unset, .unset, .unset, .unset] [(.int c1)])) (fun _ k_ => XS.iload X27.here hx rfl (hb hby at_93) rfl  k_) ?_
    obtain ⟨_, T28, L28, X28, hQ28, st28⟩ := own_callS X27 hx (y := own_m7) hown1 (mvT hZ1 (hw _ (List.mem_of_getElem? (i := 44) rfl))) (mvT hZ1 (hw _ (List.mem_of_getElem? (i := 45) rfl))) (mvT hZ1 (hw _ (List.mem_of_getElem? (i := 2) rfl))) (mvT hZ1 (hw _ (List.mem_of_getElem? (i := 46) rfl))) (by decide) (backOf (W := 0) (rm_val l Z a0 hw [] c1 T4.heap n0 f26) hZ1 (hw _ (List.mem_of_getElem? (i := 46) rfl)) (hw _ (List.mem_of_getElem? (i := 2) rfl)) (by decide) (by decide)) (g := (mkF m 95 #[iv p0, iv p1, iv p2, iv p3, iv p4, iv (4 : Int32), iv (2 : Int32), iv c0, iv c1, iv c2, iv c3, rv b1, rv b4, iv (own_val c0), .unset, .unset, .unset, .unset, .unset] [(.int c1)])) rfl (by rw [hml]; rfl) (argsL := [(.int c1)]) (rest := []) (lenOf pd__C_I rfl) rfl (by show 2 * 0 + _ ≤ _; exact Nat.le_of_eq rfl) (hb hby at_95) rfl eq27 (by decide) (by decide) (c' := 15) (s' := 286) rfl rfl
    obtain ⟨rfl, Nq28, eq28⟩ := hQ28
    have N28 := Fr.app N27 Nq28
    refine own_stW (T' := T28) (g' := (mkF m 98 #[iv p0, iv p1, iv p2, iv p3, iv p4, iv (4 : Int32), iv (2 : Int32), iv c0, iv c1, iv c2, iv c3, rv b1, rv b4, iv (own_val c0), .unset, .unset, .unset, .unset, .unset] [(.int (own_val c1))])) st28 ?_
    clear st28
    refine own_stW (T' := T28) (g' := (mkF m 100 #[iv p0, iv p1, iv p2, iv p3, iv p4, iv (4 : Int32), iv (2 : Int32), iv c0, iv c1, iv c2, iv c3, rv b1, rv b4, iv (own_val c0), iv (own_val c1), .unset, .unset, .unset, .unset] [])) (fun _ k_ => XS.istore X28.here hx rfl (hb hby at_98) rfl (l' := #[iv p0, iv p1, iv p2, iv p3, iv p4, iv (4 : Int32), iv (2 : Int32), iv c0, iv c1, iv c2, iv c3, rv b1, rv b4, iv (own_val c0), iv (own_val c1), .unset, .unset, .unset, .unset]) rfl k_) ?_
    refine own_stW (T' := T28) (g' := (mkF m 102 #[iv p0, iv p1, iv p2, iv p3, iv p4, iv (4 : Int32), iv (2 : Int32), iv c0, iv c1, iv c2, iv c3, rv b1, rv b4, iv (own_val c0), iv (own_val c1), .unset, .unset, .unset, .unset] [(.int c2)])) (fun _ k_ => XS.iload X28.here hx rfl (hb hby at_100) rfl  k_) ?_
    obtain ⟨_, T29, L29, X29, hQ29, st29⟩ := own_callS X28 hx (y := own_m7) hown1 (mvT hZ1 (hw _ (List.mem_of_getElem? (i := 44) rfl))) (mvT hZ1 (hw _ (List.mem_of_getElem? (i := 45) rfl))) (mvT hZ1 (hw _ (List.mem_of_getElem? (i := 2) rfl))) (mvT hZ1 (hw _ (List.mem_of_getElem? (i := 46) rfl))) (by decide) (backOf (W := 0) (rm_val l Z a0 hw [] c2 T4.heap n0 f26) hZ1 (hw _ (List.mem_of_getElem? (i := 46) rfl)) (hw _ (List.mem_of_getElem? (i := 2) rfl)) (by decide) (by decide)) (g := (mkF m 102 #[iv p0, iv p1, iv p2, iv p3, iv p4, iv (4 : Int32), iv (2 : Int32), iv c0, iv c1, iv c2, iv c3, rv b1, rv b4, iv (own_val c0), iv (own_val c1), .unset, .unset, .unset, .unset] [(.int c2)])) rfl (by rw [hml]; rfl) (argsL := [(.int c2)]) (rest := []) (lenOf pd__C_I rfl) rfl (by show 2 * 0 + _ ≤ _; exact Nat.le_of_eq rfl) (hb hby at_102) rfl eq28 (by decide) (by decide) (c' := 15) (s' := 286) rfl rfl
    obtain ⟨rfl, Nq29, eq29⟩ := hQ29
    have N29 := Fr.app N28 Nq29
    refine own_stW (T' := T29) (g' := (mkF m 105 #[iv p0, iv p1, iv p2, iv p3, iv p4, iv (4 : Int32), iv (2 : Int32), iv c0, iv c1, iv c2, iv c3, rv b1, rv b4, iv (own_val c0), iv (own_val c1), .unset, .unset, .unset, .unset] [(.int (own_val c2))])) st29 ?_
    clear st29
    refine own_stW (T' := T29) (g' := (mkF m 107 #[iv p0, iv p1, iv p2, iv p3, iv p4, iv (4 : Int32), iv (2 : Int32), iv c0, iv c1, iv c2, iv c3, rv b1, rv b4, iv (own_val c0), iv (own_val c1), iv (own_val c2), .unset, .unset, .unset] [])) (fun _ k_ => XS.istore X29.here hx rfl (hb hby at_105) rfl (l' := #[iv p0, iv p1, iv p2, iv p3, iv p4, iv (4 : Int32), iv (2 : Int32), iv c0, iv c1, iv c2, iv c3, rv b1, rv b4, iv (own_val c0), iv (own_val c1), iv (own_val c2), .unset, .unset, .unset]) rfl k_) ?_
    refine own_stW (T' := T29) (g' := (mkF m 109 #[iv p0, iv p1, iv p2, iv p3, iv p4, iv (4 : Int32), iv (2 : Int32), iv c0, iv c1, iv c2, iv c3, rv b1, rv b4, iv (own_val c0), iv (own_val c1), iv (own_val c2), .unset, .unset, .unset] [(.int c3)])) (fun _ k_ => XS.iload X29.here hx rfl (hb hby at_107) rfl  k_) ?_
    obtain ⟨_, T30, L30, X30, hQ30, st30⟩ := own_callS X29 hx (y := own_m7) hown1 (mvT hZ1 (hw _ (List.mem_of_getElem? (i := 44) rfl))) (mvT hZ1 (hw _ (List.mem_of_getElem? (i := 45) rfl))) (mvT hZ1 (hw _ (List.mem_of_getElem? (i := 2) rfl))) (mvT hZ1 (hw _ (List.mem_of_getElem? (i := 46) rfl))) (by decide) (backOf (W := 0) (rm_val l Z a0 hw [] c3 T4.heap n0 f26) hZ1 (hw _ (List.mem_of_getElem? (i := 46) rfl)) (hw _ (List.mem_of_getElem? (i := 2) rfl)) (by decide) (by decide)) (g := (mkF m 109 #[iv p0, iv p1, iv p2, iv p3, iv p4, iv (4 : Int32), iv (2 : Int32), iv c0, iv c1, iv c2, iv c3, rv b1, rv b4, iv (own_val c0), iv (own_val c1), iv (own_val c2), .unset, .unset, .unset] [(.int c3)])) rfl (by rw [hml]; rfl) (argsL := [(.int c3)]) (rest := []) (lenOf pd__C_I rfl) rfl (by show 2 * 0 + _ ≤ _; exact Nat.le_of_eq rfl) (hb hby at_109) rfl eq29 (by decide) (by decide) (c' := 15) (s' := 286) rfl rfl
    obtain ⟨rfl, Nq30, eq30⟩ := hQ30
    have N30 := Fr.app N29 Nq30
    refine own_stW (T' := T30) (g' := (mkF m 112 #[iv p0, iv p1, iv p2, iv p3, iv p4, iv (4 : Int32), iv (2 : Int32), iv c0, iv c1, iv c2, iv c3, rv b1, rv b4, iv (own_val c0), iv (own_val c1), iv (own_val c2), .unset, .unset, .unset] [(.int (own_val c3))])) st30 ?_
    clear st30
    refine own_stW (T' := T30) (g' := (mkF m 114 #[iv p0, iv p1, iv p2, iv p3, iv p4, iv (4 : Int32), iv (2 : Int32), iv c0, iv c1, iv c2, iv c3, rv b1, rv b4, iv (own_val c0), iv (own_val c1), iv (own_val c2), iv (own_val c3), .unset, .unset] [])) (fun _ k_ => XS.istore X30.here hx rfl (hb hby at_112) rfl (l' := #[iv p0, iv p1, iv p2, iv p3, iv p4, iv (4 : Int32), iv (2 : Int32), iv c0, iv c1, iv c2, iv c3, rv b1, rv b4, iv (own_val c0), iv (own_val c1), iv (own_val c2), iv (own_val c3), .unset, .unset]) rfl k_) ?_
    refine own_stW (T' := T30) (g' := (mkF m 116 #[iv p0, iv p1, iv p2, iv p3, iv p4, iv (4 : Int32), iv (2 : Int32), iv c0, iv c1, iv c2, iv c3, rv b1, rv b4, iv (own_val c0), iv (own_val c1), iv (own_val c2), iv (own_val c3), .unset, .unset] [(.int (2 : Int32))])) (fun _ k_ => XS.iload X30.here hx rfl (hb hby at_114) rfl  k_) ?_
    refine own_stW (T' := T30) (g' := (mkF m 117 #[iv p0, iv p1, iv p2, iv p3, iv p4, iv (4 : Int32), iv (2 : Int32), iv c0, iv c1, iv c2, iv c3, rv b1, rv b4, iv (own_val c0), iv (own_val c1), iv (own_val c2), iv (own_val c3), .unset, .unset] [(.int (1 : Int32)), (.int (2 : Int32))])) (fun _ k_ => XS.iconst X30.here hx rfl (hb hby at_116) k_) ?_
    refine own_stW (T' := T30) (g' := (mkF m 120 #[iv p0, iv p1, iv p2, iv p3, iv p4, iv (4 : Int32), iv (2 : Int32), iv c0, iv c1, iv c2, iv c3, rv b1, rv b4, iv (own_val c0), iv (own_val c1), iv (own_val c2), iv (own_val c3), .unset, .unset] [])) (fun _ k_ => XS.icmpNo X30.here hx rfl (hb hby at_117) rfl (flt (by decide : ¬ ((2 : Int32) < (1 : Int32)))).1 k_) ?_
    refine own_stW (T' := T30) (g' := (mkF m 122 #[iv p0, iv p1, iv p2, iv p3, iv p4, iv (4 : Int32), iv (2 : Int32), iv c0, iv c1, iv c2, iv c3, rv b1, rv b4, iv (own_val c0), iv (own_val c1), iv (own_val c2), iv (own_val c3), .unset, .unset] [(.int (own_val c0))])) (fun _ k_ => XS.iload X30.here hx rfl (hb hby at_120) rfl  k_) ?_
    refine own_stW (T' := T30) (g' := (mkF m 125 #[iv p0, iv p1, iv p2, iv p3, iv p4, iv (4 : Int32), iv (2 : Int32), iv c0, iv c1, iv c2, iv c3, rv b1, rv b4, iv (own_val c0), iv (own_val c1), iv (own_val c2), iv (own_val c3), .unset, .unset] [])) (fun _ k_ => XS.ifNo X30.here hx rfl (hb hby at_122) rfl ((if0 _ _).trans (flt ((own_or (fun q => hbad (Or.inl q))).1 : ¬ ((own_val c0) < (0 : Int32)))).1) k_) ?_
    refine own_stW (T' := T30) (g' := (mkF m 127 #[iv p0, iv p1, iv p2, iv p3, iv p4, iv (4 : Int32), iv (2 : Int32), iv c0, iv c1, iv c2, iv c3, rv b1, rv b4, iv (own_val c0), iv (own_val c1), iv (own_val c2), iv (own_val c3), .unset, .unset] [(.int (own_val c1))])) (fun _ k_ => XS.iload X30.here hx rfl (hb hby at_125) rfl  k_) ?_
    refine own_stW (T' := T30) (g' := (mkF m 130 #[iv p0, iv p1, iv p2, iv p3, iv p4, iv (4 : Int32), iv (2 : Int32), iv c0, iv c1, iv c2, iv c3, rv b1, rv b4, iv (own_val c0), iv (own_val c1), iv (own_val c2), iv (own_val c3), .unset, .unset] [])) (fun _ k_ => XS.ifNo X30.here hx rfl (hb hby at_127) rfl ((if0 _ _).trans (flt ((own_or (fun q => hbad (Or.inl q))).2 : ¬ ((own_val c1) < (0 : Int32)))).1) k_) ?_
    refine own_stW (T' := T30) (g' := (mkF m 131 #[iv p0, iv p1, iv p2, iv p3, iv p4, iv (4 : Int32), iv (2 : Int32), iv c0, iv c1, iv c2, iv c3, rv b1, rv b4, iv (own_val c0), iv (own_val c1), iv (own_val c2), iv (own_val c3), .unset, .unset] [(.int (1 : Int32))])) (fun _ k_ => XS.iconst X30.here hx rfl (hb hby at_130) k_) ?_
    refine own_stW (T' := T30) (g' := (mkF m 135 #[iv p0, iv p1, iv p2, iv p3, iv p4, iv (4 : Int32), iv (2 : Int32), iv c0, iv c1, iv c2, iv c3, rv b1, rv b4, iv (own_val c0), iv (own_val c1), iv (own_val c2), iv (own_val c3), .unset, .unset] [(.int (1 : Int32))])) (fun _ k_ => XS.goto X30.here hx rfl (pc0 := 131) (pc' := 135) rfl (hb hby at_131) (by decide) (by decide) k_) ?_
    refine own_stW (T' := T30) (g' := (mkF m 137 #[iv p0, iv p1, iv p2, iv p3, iv p4, iv (4 : Int32), iv (2 : Int32), iv c0, iv c1, iv c2, iv c3, rv b1, rv b4, iv (own_val c0), iv (own_val c1), iv (own_val c2), iv (own_val c3), iv (1 : Int32), .unset] [])) (fun _ k_ => XS.istore X30.here hx rfl (hb hby at_135) rfl (l' := #[iv p0, iv p1, iv p2, iv p3, iv p4, iv (4 : Int32), iv (2 : Int32), iv c0, iv c1, iv c2, iv c3, rv b1, rv b4, iv (own_val c0), iv (own_val c1), iv (own_val c2), iv (own_val c3), iv (1 : Int32), .unset]) rfl k_) ?_
    refine own_stW (T' := T30) (g' := (mkF m 139 #[iv p0, iv p1, iv p2, iv p3, iv p4, iv (4 : Int32), iv (2 : Int32), iv c0, iv c1, iv c2, iv c3, rv b1, rv b4, iv (own_val c0), iv (own_val c1), iv (own_val c2), iv (own_val c3), iv (1 : Int32), .unset] [(.int (2 : Int32))])) (fun _ k_ => XS.iload X30.here hx rfl (hb hby at_137) rfl  k_) ?_
    refine own_stW (T' := T30) (g' := (mkF m 140 #[iv p0, iv p1, iv p2, iv p3, iv p4, iv (4 : Int32), iv (2 : Int32), iv c0, iv c1, iv c2, iv c3, rv b1, rv b4, iv (own_val c0), iv (own_val c1), iv (own_val c2), iv (own_val c3), iv (1 : Int32), .unset] [(.int (2 : Int32)), (.int (2 : Int32))])) (fun _ k_ => XS.iconst X30.here hx rfl (hb hby at_139) k_) ?_
    refine own_stW (T' := T30) (g' := (mkF m 143 #[iv p0, iv p1, iv p2, iv p3, iv p4, iv (4 : Int32), iv (2 : Int32), iv c0, iv c1, iv c2, iv c3, rv b1, rv b4, iv (own_val c0), iv (own_val c1), iv (own_val c2), iv (own_val c3), iv (1 : Int32), .unset] [])) (fun _ k_ => XS.icmpNo X30.here hx rfl (hb hby at_140) rfl (flt (by decide : ¬ ((2 : Int32) < (2 : Int32)))).1 k_) ?_
    refine own_stW (T' := T30) (g' := (mkF m 145 #[iv p0, iv p1, iv p2, iv p3, iv p4, iv (4 : Int32), iv (2 : Int32), iv c0, iv c1, iv c2, iv c3, rv b1, rv b4, iv (own_val c0), iv (own_val c1), iv (own_val c2), iv (own_val c3), iv (1 : Int32), .unset] [(.int (own_val c2))])) (fun _ k_ => XS.iload X30.here hx rfl (hb hby at_143) rfl  k_) ?_
    refine own_stW (T' := T30) (g' := (mkF m 148 #[iv p0, iv p1, iv p2, iv p3, iv p4, iv (4 : Int32), iv (2 : Int32), iv c0, iv c1, iv c2, iv c3, rv b1, rv b4, iv (own_val c0), iv (own_val c1), iv (own_val c2), iv (own_val c3), iv (1 : Int32), .unset] [])) (fun _ k_ => XS.ifNo X30.here hx rfl (hb hby at_145) rfl ((if0 _ _).trans (flt ((own_or (fun q => hbad (Or.inr q))).1 : ¬ ((own_val c2) < (0 : Int32)))).1) k_) ?_
    refine own_stW (T' := T30) (g' := (mkF m 150 #[iv p0, iv p1, iv p2, iv p3, iv p4, iv (4 : Int32), iv (2 : Int32), iv c0, iv c1, iv c2, iv c3, rv b1, rv b4, iv (own_val c0), iv (own_val c1), iv (own_val c2), iv (own_val c3), iv (1 : Int32), .unset] [(.int (own_val c3))])) (fun _ k_ => XS.iload X30.here hx rfl (hb hby at_148) rfl  k_) ?_
    refine own_stW (T' := T30) (g' := (mkF m 153 #[iv p0, iv p1, iv p2, iv p3, iv p4, iv (4 : Int32), iv (2 : Int32), iv c0, iv c1, iv c2, iv c3, rv b1, rv b4, iv (own_val c0), iv (own_val c1), iv (own_val c2), iv (own_val c3), iv (1 : Int32), .unset] [])) (fun _ k_ => XS.ifNo X30.here hx rfl (hb hby at_150) rfl ((if0 _ _).trans (flt ((own_or (fun q => hbad (Or.inr q))).2 : ¬ ((own_val c3) < (0 : Int32)))).1) k_) ?_
    refine own_stW (T' := T30) (g' := (mkF m 154 #[iv p0, iv p1, iv p2, iv p3, iv p4, iv (4 : Int32), iv (2 : Int32), iv c0, iv c1, iv c2, iv c3, rv b1, rv b4, iv (own_val c0), iv (own_val c1), iv (own_val c2), iv (own_val c3), iv (1 : Int32), .unset] [(.int (1 : Int32))])) (fun _ k_ => XS.iconst X30.here hx rfl (hb hby at_153) k_) ?_
    refine own_stW (T' := T30) (g' := (mkF m 158 #[iv p0, iv p1, iv p2, iv p3, iv p4, iv (4 : Int32), iv (2 : Int32), iv c0, iv c1, iv c2, iv c3, rv b1, rv b4, iv (own_val c0), iv (own_val c1), iv (own_val c2), iv (own_val c3), iv (1 : Int32), .unset] [(.int (1 : Int32))])) (fun _ k_ => XS.goto X30.here hx rfl (pc0 := 154) (pc' := 158) rfl (hb hby at_154) (by decide) (by decide) k_) ?_
    refine own_stW (T' := T30) (g' := (mkF m 160 #[iv p0, iv p1, iv p2, iv p3, iv p4, iv (4 : Int32), iv (2 : Int32), iv c0, iv c1, iv c2, iv c3, rv b1, rv b4, iv (own_val c0), iv (own_val c1), iv (own_val c2), iv (own_val c3), iv (1 : Int32), iv (1 : Int32)] [])) (fun _ k_ => XS.istore X30.here hx rfl (hb hby at_158) rfl (l' := #[iv p0, iv p1, iv p2, iv p3, iv p4, iv (4 : Int32), iv (2 : Int32), iv c0, iv c1, iv c2, iv c3, rv b1, rv b4, iv (own_val c0), iv (own_val c1), iv (own_val c2), iv (own_val c3), iv (1 : Int32), iv (1 : Int32)]) rfl k_) ?_
    refine own_stW (T' := T30) (g' := (mkF m 162 #[iv p0, iv p1, iv p2, iv p3, iv p4, iv (4 : Int32), iv (2 : Int32), iv c0, iv c1, iv c2, iv c3, rv b1, rv b4, iv (own_val c0), iv (own_val c1), iv (own_val c2), iv (own_val c3), iv (1 : Int32), iv (1 : Int32)] [(.int (1 : Int32))])) (fun _ k_ => XS.iload X30.here hx rfl (hb hby at_160) rfl  k_) ?_
    refine own_stW (T' := T30) (g' := (mkF m 165 #[iv p0, iv p1, iv p2, iv p3, iv p4, iv (4 : Int32), iv (2 : Int32), iv c0, iv c1, iv c2, iv c3, rv b1, rv b4, iv (own_val c0), iv (own_val c1), iv (own_val c2), iv (own_val c3), iv (1 : Int32), iv (1 : Int32)] [])) (fun _ k_ => XS.ifNo X30.here hx rfl (hb hby at_162) rfl ((if0 _ _).trans (feq (by decide : ¬ ((1 : Int32) = (0 : Int32)))).1) k_) ?_
    refine own_stW (T' := T30) (g' := (mkF m 167 #[iv p0, iv p1, iv p2, iv p3, iv p4, iv (4 : Int32), iv (2 : Int32), iv c0, iv c1, iv c2, iv c3, rv b1, rv b4, iv (own_val c0), iv (own_val c1), iv (own_val c2), iv (own_val c3), iv (1 : Int32), iv (1 : Int32)] [(.int (1 : Int32))])) (fun _ k_ => XS.iload X30.here hx rfl (hb hby at_165) rfl  k_) ?_
    refine own_stW (T' := T30) (g' := (mkF m 181 #[iv p0, iv p1, iv p2, iv p3, iv p4, iv (4 : Int32), iv (2 : Int32), iv c0, iv c1, iv c2, iv c3, rv b1, rv b4, iv (own_val c0), iv (own_val c1), iv (own_val c2), iv (own_val c3), iv (1 : Int32), iv (1 : Int32)] [])) (fun _ k_ => XS.ifYes X30.here hx rfl (pc0 := 167) (pc' := 181) rfl (hb hby at_167) rfl ((if0 _ _).trans (feq (by decide : ¬ ((1 : Int32) = (0 : Int32)))).2) (by decide) (by decide) k_) ?_
    refine own_stW (T' := T30) (g' := (mkF m 183 #[iv p0, iv p1, iv p2, iv p3, iv p4, iv (4 : Int32), iv (2 : Int32), iv c0, iv c1, iv c2, iv c3, rv b1, rv b4, iv (own_val c0), iv (own_val c1), iv (own_val c2), iv (own_val c3), iv (1 : Int32), iv (1 : Int32)] [(.ref b4)])) (fun _ k_ => XS.aload X30.here hx rfl (hb hby at_181) rfl rfl  k_) ?_
    refine own_stW (T' := T30) (g' := (mkF m 186 #[iv p0, iv p1, iv p2, iv p3, iv p4, iv (4 : Int32), iv (2 : Int32), iv c0, iv c1, iv c2, iv c3, rv b1, rv b4, iv (own_val c0), iv (own_val c1), iv (own_val c2), iv (own_val c3), iv (1 : Int32), iv (1 : Int32)] [])) (fun _ k_ => XS.ifnullNo X30.here hx rfl (hb hby at_183) rfl k_) ?_
    refine own_stW (T' := T30) (g' := (mkF m 188 #[iv p0, iv p1, iv p2, iv p3, iv p4, iv (4 : Int32), iv (2 : Int32), iv c0, iv c1, iv c2, iv c3, rv b1, rv b4, iv (own_val c0), iv (own_val c1), iv (own_val c2), iv (own_val c3), iv (1 : Int32), iv (1 : Int32)] [(.ref b4)])) (fun _ k_ => XS.aload X30.here hx rfl (hb hby at_186) rfl rfl  k_) ?_
    obtain ⟨cl31, Ar31, -, S31, N31, -, -⟩ := id fr4
    refine own_stW (T' := T30) (g' := (mkF m 189 #[iv p0, iv p1, iv p2, iv p3, iv p4, iv (4 : Int32), iv (2 : Int32), iv c0, iv c1, iv c2, iv c3, rv b1, rv b4, iv (own_val c0), iv (own_val c1), iv (own_val c2), iv (own_val c3), iv (1 : Int32), iv (1 : Int32)] [(.int (2 : Int32))])) (fun t_ k_ => X30.arraylength hx (by rw [eq30]; exact Ar31.1) (State.isArrayOf_alike hZ1.alike Ar31.2.1) (g := (mkF m 188 #[iv p0, iv p1, iv p2, iv p3, iv p4, iv (4 : Int32), iv (2 : Int32), iv c0, iv c1, iv c2, iv c3, rv b1, rv b4, iv (own_val c0), iv (own_val c1), iv (own_val c2), iv (own_val c3), iv (1 : Int32), iv (1 : Int32)] [(.ref b4)])) rfl rfl (hb hby at_188) _ (by rw [len_of S31 N31]; exact k_)) ?_
    refine own_stW (T' := T30) (g' := (mkF m 191 #[iv p0, iv p1, iv p2, iv p3, iv p4, iv (4 : Int32), iv (2 : Int32), iv c0, iv c1, iv c2, iv c3, rv b1, rv b4, iv (own_val c0), iv (own_val c1), iv (own_val c2), iv (own_val c3), iv (1 : Int32), iv (1 : Int32)] [(.int (2 : Int32)), (.int (2 : Int32))])) (fun _ k_ => XS.iload X30.here hx rfl (hb hby at_189) rfl  k_) ?_
    refine own_stW (T' := T30) (g' := (mkF m 196 #[iv p0, iv p1, iv p2, iv p3, iv p4, iv (4 : Int32), iv (2 : Int32), iv c0, iv c1, iv c2, iv c3, rv b1, rv b4, iv (own_val c0), iv (own_val c1), iv (own_val c2), iv (own_val c3), iv (1 : Int32), iv (1 : Int32)] [])) (fun _ k_ => XS.icmpYes X30.here hx rfl (pc0 := 191) (pc' := 196) rfl (hb hby at_191) rfl (teq (rfl : (2 : Int32) = (2 : Int32))).1 (by decide) (by decide) k_) ?_
    refine own_stW (T' := T30) (g' := (mkF m 198 #[iv p0, iv p1, iv p2, iv p3, iv p4, iv (4 : Int32), iv (2 : Int32), iv c0, iv c1, iv c2, iv c3, rv b1, rv b4, iv (own_val c0), iv (own_val c1), iv (own_val c2), iv (own_val c3), iv (1 : Int32), iv (1 : Int32)] [(.int (2 : Int32))])) (fun _ k_ => XS.iload X30.here hx rfl (hb hby at_196) rfl  k_) ?_
    refine own_stW (T' := T30) (g' := (mkF m 199 #[iv p0, iv p1, iv p2, iv p3, iv p4, iv (4 : Int32), iv (2 : Int32), iv c0, iv c1, iv c2, iv c3, rv b1, rv b4, iv (own_val c0), iv (own_val c1), iv (own_val c2), iv (own_val c3), iv (1 : Int32), iv (1 : Int32)] [(.int (1 : Int32)), (.int (2 : Int32))])) (fun _ k_ => XS.iconst X30.here hx rfl (hb hby at_198) k_) ?_
    refine own_stW (T' := T30) (g' := (mkF m 202 #[iv p0, iv p1, iv p2, iv p3, iv p4, iv (4 : Int32), iv (2 : Int32), iv c0, iv c1, iv c2, iv c3, rv b1, rv b4, iv (own_val c0), iv (own_val c1), iv (own_val c2), iv (own_val c3), iv (1 : Int32), iv (1 : Int32)] [])) (fun _ k_ => XS.icmpNo X30.here hx rfl (hb hby at_199) rfl (flt (by decide : ¬ ((2 : Int32) < (1 : Int32)))).1 k_) ?_
    refine own_stW (T' := T30) (g' := (mkF m 204 #[iv p0, iv p1, iv p2, iv p3, iv p4, iv (4 : Int32), iv (2 : Int32), iv c0, iv c1, iv c2, iv c3, rv b1, rv b4, iv (own_val c0), iv (own_val c1), iv (own_val c2), iv (own_val c3), iv (1 : Int32), iv (1 : Int32)] [(.ref b4)])) (fun _ k_ => XS.aload X30.here hx rfl (hb hby at_202) rfl rfl  k_) ?_
    refine own_stW (T' := T30) (g' := (mkF m 205 #[iv p0, iv p1, iv p2, iv p3, iv p4, iv (4 : Int32), iv (2 : Int32), iv c0, iv c1, iv c2, iv c3, rv b1, rv b4, iv (own_val c0), iv (own_val c1), iv (own_val c2), iv (own_val c3), iv (1 : Int32), iv (1 : Int32)] [(.int (0 : Int32)), (.ref b4)])) (fun _ k_ => XS.iconst X30.here hx rfl (hb hby at_204) k_) ?_
    obtain ⟨cl32, Ar32, q32, S32, N32, H32, G32⟩ := id fr4
    have hin32 : ¬ ((0 : Int32) < 0 ∨ cl32.slots.size ≤ ((0 : Int32)).toNatClampNeg) := inb_of S32 ⟨by decide, by decide⟩
    refine own_stW (T' := T30) (g' := (mkF m 206 #[iv p0, iv p1, iv p2, iv p3, iv p4, iv (4 : Int32), iv (2 : Int32), iv c0, iv c1, iv c2, iv c3, rv b1, rv b4, iv (own_val c0), iv (own_val c1), iv (own_val c2), iv (own_val c3), iv (1 : Int32), iv (1 : Int32)] [(.int (((own_val c0 <<< ((4 : Int32) &&& 31)) ||| own_val c1).toInt8.toInt32))])) (X30.baloadBytes hx (j := (0 : Int32)) (v := (.int (((own_val c0 <<< ((4 : Int32) &&& 31)) ||| own_val c1).toInt8.toInt32))) (by rw [eq30]; exact Ar32.1) (State.isArrayOf_alike hZ1.alike Ar32.2.1) Ar32.2.2 hin32 (H32.at hin32 rfl) (g := (mkF m 205 #[iv p0, iv p1, iv p2, iv p3, iv p4, iv (4 : Int32), iv (2 : Int32), iv c0, iv c1, iv c2, iv c3, rv b1, rv b4, iv (own_val c0), iv (own_val c1), iv (own_val c2), iv (own_val c3), iv (1 : Int32), iv (1 : Int32)] [(.int (0 : Int32)), (.ref b4)])) rfl rfl (hb hby at_205)) ?_
    clear hin32 G32 H32 N32 S32 q32 Ar32 cl32
    refine own_stW (T' := T30) (g' := (mkF m 208 #[iv p0, iv p1, iv p2, iv p3, iv p4, iv (4 : Int32), iv (2 : Int32), iv c0, iv c1, iv c2, iv c3, rv b1, rv b4, iv (own_val c0), iv (own_val c1), iv (own_val c2), iv (own_val c3), iv (1 : Int32), iv (1 : Int32)] [(.int (own_val c0)), (.int (((own_val c0 <<< ((4 : Int32) &&& 31)) ||| own_val c1).toInt8.toInt32))])) (fun _ k_ => XS.iload X30.here hx rfl (hb hby at_206) rfl  k_) ?_
    refine own_stW (T' := T30) (g' := (mkF m 210 #[iv p0, iv p1, iv p2, iv p3, iv p4, iv (4 : Int32), iv (2 : Int32), iv c0, iv c1, iv c2, iv c3, rv b1, rv b4, iv (own_val c0), iv (own_val c1), iv (own_val c2), iv (own_val c3), iv (1 : Int32), iv (1 : Int32)] [(.int (16 : Int32)), (.int (own_val c0)), (.int (((own_val c0 <<< ((4 : Int32) &&& 31)) ||| own_val c1).toInt8.toInt32))])) (fun _ k_ => XS.bipush X30.here hx rfl (hb hby at_208) k_) ?_
    refine own_stW (T' := T30) (g' := (mkF m 211 #[iv p0, iv p1, iv p2, iv p3, iv p4, iv (4 : Int32), iv (2 : Int32), iv c0, iv c1, iv c2, iv c3, rv b1, rv b4, iv (own_val c0), iv (own_val c1), iv (own_val c2), iv (own_val c3), iv (1 : Int32), iv (1 : Int32)] [(.int ((own_val c0) * (16 : Int32))), (.int (((own_val c0 <<< ((4 : Int32) &&& 31)) ||| own_val c1).toInt8.toInt32))])) (fun _ k_ => XS.imul X30.here hx rfl (hb hby at_210) rfl k_) ?_
    refine own_stW (T' := T30) (g' := (mkF m 213 #[iv p0, iv p1, iv p2, iv p3, iv p4, iv (4 : Int32), iv (2 : Int32), iv c0, iv c1, iv c2, iv c3, rv b1, rv b4, iv (own_val c0), iv (own_val c1), iv (own_val c2), iv (own_val c3), iv (1 : Int32), iv (1 : Int32)] [(.int (own_val c1)), (.int ((own_val c0) * (16 : Int32))), (.int (((own_val c0 <<< ((4 : Int32) &&& 31)) ||| own_val c1).toInt8.toInt32))])) (fun _ k_ => XS.iload X30.here hx rfl (hb hby at_211) rfl  k_) ?_
    refine own_stW (T' := T30) (g' := (mkF m 214 #[iv p0, iv p1, iv p2, iv p3, iv p4, iv (4 : Int32), iv (2 : Int32), iv c0, iv c1, iv c2, iv c3, rv b1, rv b4, iv (own_val c0), iv (own_val c1), iv (own_val c2), iv (own_val c3), iv (1 : Int32), iv (1 : Int32)] [(.int (((own_val c0) * (16 : Int32)) + (own_val c1))), (.int (((own_val c0 <<< ((4 : Int32) &&& 31)) ||| own_val c1).toInt8.toInt32))])) (fun _ k_ => XS.iadd X30.here hx rfl (hb hby at_213) rfl k_) ?_
    refine own_stW (T' := T30) (g' := (mkF m 215 #[iv p0, iv p1, iv p2, iv p3, iv p4, iv (4 : Int32), iv (2 : Int32), iv c0, iv c1, iv c2, iv c3, rv b1, rv b4, iv (own_val c0), iv (own_val c1), iv (own_val c2), iv (own_val c3), iv (1 : Int32), iv (1 : Int32)] [(.int ((((own_val c0) * (16 : Int32)) + (own_val c1)).toInt8.toInt32)), (.int (((own_val c0 <<< ((4 : Int32) &&& 31)) ||| own_val c1).toInt8.toInt32))])) (fun _ k_ => XS.i2b X30.here hx rfl (hb hby at_214) rfl k_) ?_
    refine own_stW (T' := T30) (g' := (mkF m 220 #[iv p0, iv p1, iv p2, iv p3, iv p4, iv (4 : Int32), iv (2 : Int32), iv c0, iv c1, iv c2, iv c3, rv b1, rv b4, iv (own_val c0), iv (own_val c1), iv (own_val c2), iv (own_val c3), iv (1 : Int32), iv (1 : Int32)] [])) (fun _ k_ => XS.icmpYes X30.here hx rfl (pc0 := 215) (pc' := 220) rfl (hb hby at_215) rfl (teq ((own_hexb (own_or (fun q => hbad (Or.inl q))).1 (own_or (fun q => hbad (Or.inl q))).2) : (((own_val c0 <<< ((4 : Int32) &&& 31)) ||| own_val c1).toInt8.toInt32) = ((((own_val c0) * (16 : Int32)) + (own_val c1)).toInt8.toInt32))).1 (by decide) (by decide) k_) ?_
    refine own_stW (T' := T30) (g' := (mkF m 222 #[iv p0, iv p1, iv p2, iv p3, iv p4, iv (4 : Int32), iv (2 : Int32), iv c0, iv c1, iv c2, iv c3, rv b1, rv b4, iv (own_val c0), iv (own_val c1), iv (own_val c2), iv (own_val c3), iv (1 : Int32), iv (1 : Int32)] [(.int (2 : Int32))])) (fun _ k_ => XS.iload X30.here hx rfl (hb hby at_220) rfl  k_) ?_
    refine own_stW (T' := T30) (g' := (mkF m 223 #[iv p0, iv p1, iv p2, iv p3, iv p4, iv (4 : Int32), iv (2 : Int32), iv c0, iv c1, iv c2, iv c3, rv b1, rv b4, iv (own_val c0), iv (own_val c1), iv (own_val c2), iv (own_val c3), iv (1 : Int32), iv (1 : Int32)] [(.int (2 : Int32)), (.int (2 : Int32))])) (fun _ k_ => XS.iconst X30.here hx rfl (hb hby at_222) k_) ?_
    refine own_stW (T' := T30) (g' := (mkF m 226 #[iv p0, iv p1, iv p2, iv p3, iv p4, iv (4 : Int32), iv (2 : Int32), iv c0, iv c1, iv c2, iv c3, rv b1, rv b4, iv (own_val c0), iv (own_val c1), iv (own_val c2), iv (own_val c3), iv (1 : Int32), iv (1 : Int32)] [])) (fun _ k_ => XS.icmpNo X30.here hx rfl (hb hby at_223) rfl (flt (by decide : ¬ ((2 : Int32) < (2 : Int32)))).1 k_) ?_
    refine own_stW (T' := T30) (g' := (mkF m 228 #[iv p0, iv p1, iv p2, iv p3, iv p4, iv (4 : Int32), iv (2 : Int32), iv c0, iv c1, iv c2, iv c3, rv b1, rv b4, iv (own_val c0), iv (own_val c1), iv (own_val c2), iv (own_val c3), iv (1 : Int32), iv (1 : Int32)] [(.ref b4)])) (fun _ k_ => XS.aload X30.here hx rfl (hb hby at_226) rfl rfl  k_) ?_
    refine own_stW (T' := T30) (g' := (mkF m 229 #[iv p0, iv p1, iv p2, iv p3, iv p4, iv (4 : Int32), iv (2 : Int32), iv c0, iv c1, iv c2, iv c3, rv b1, rv b4, iv (own_val c0), iv (own_val c1), iv (own_val c2), iv (own_val c3), iv (1 : Int32), iv (1 : Int32)] [(.int (1 : Int32)), (.ref b4)])) (fun _ k_ => XS.iconst X30.here hx rfl (hb hby at_228) k_) ?_
    obtain ⟨cl33, Ar33, q33, S33, N33, H33, G33⟩ := id fr4
    have hin33 : ¬ ((1 : Int32) < 0 ∨ cl33.slots.size ≤ ((1 : Int32)).toNatClampNeg) := inb_of S33 ⟨by decide, by decide⟩
    refine own_stW (T' := T30) (g' := (mkF m 230 #[iv p0, iv p1, iv p2, iv p3, iv p4, iv (4 : Int32), iv (2 : Int32), iv c0, iv c1, iv c2, iv c3, rv b1, rv b4, iv (own_val c0), iv (own_val c1), iv (own_val c2), iv (own_val c3), iv (1 : Int32), iv (1 : Int32)] [(.int (((own_val c2 <<< ((4 : Int32) &&& 31)) ||| own_val c3).toInt8.toInt32))])) (X30.baloadBytes hx (j := (1 : Int32)) (v := (.int (((own_val c2 <<< ((4 : Int32) &&& 31)) ||| own_val c3).toInt8.toInt32))) (by rw [eq30]; exact Ar33.1) (State.isArrayOf_alike hZ1.alike Ar33.2.1) Ar33.2.2 hin33 (H33.at hin33 rfl) (g := (mkF m 229 #[iv p0, iv p1, iv p2, iv p3, iv p4, iv (4 : Int32), iv (2 : Int32), iv c0, iv c1, iv c2, iv c3, rv b1, rv b4, iv (own_val c0), iv (own_val c1), iv (own_val c2), iv (own_val c3), iv (1 : Int32), iv (1 : Int32)] [(.int (1 : Int32)), (.ref b4)])) rfl rfl (hb hby at_229)) ?_
    clear hin33 G33 H33 N33 S33 q33 Ar33 cl33
    refine own_stW (T' := T30) (g' := (mkF m 232 #[iv p0, iv p1, iv p2, iv p3, iv p4, iv (4 : Int32), iv (2 : Int32), iv c0, iv c1, iv c2, iv c3, rv b1, rv b4, iv (own_val c0), iv (own_val c1), iv (own_val c2), iv (own_val c3), iv (1 : Int32), iv (1 : Int32)] [(.int (own_val c2)), (.int (((own_val c2 <<< ((4 : Int32) &&& 31)) ||| own_val c3).toInt8.toInt32))])) (fun _ k_ => XS.iload X30.here hx rfl (hb hby at_230) rfl  k_) ?_
    refine own_stW (T' := T30) (g' := (mkF m 234 #[iv p0, iv p1, iv p2, iv p3, iv p4, iv (4 : Int32), iv (2 : Int32), iv c0, iv c1, iv c2, iv c3, rv b1, rv b4, iv (own_val c0), iv (own_val c1), iv (own_val c2), iv (own_val c3), iv (1 : Int32), iv (1 : Int32)] [(.int (16 : Int32)), (.int (own_val c2)), (.int (((own_val c2 <<< ((4 : Int32) &&& 31)) ||| own_val c3).toInt8.toInt32))])) (fun _ k_ => XS.bipush X30.here hx rfl (hb hby at_232) k_) ?_
    refine own_stW (T' := T30) (g' := (mkF m 235 #[iv p0, iv p1, iv p2, iv p3, iv p4, iv (4 : Int32), iv (2 : Int32), iv c0, iv c1, iv c2, iv c3, rv b1, rv b4, iv (own_val c0), iv (own_val c1), iv (own_val c2), iv (own_val c3), iv (1 : Int32), iv (1 : Int32)] [(.int ((own_val c2) * (16 : Int32))), (.int (((own_val c2 <<< ((4 : Int32) &&& 31)) ||| own_val c3).toInt8.toInt32))])) (fun _ k_ => XS.imul X30.here hx rfl (hb hby at_234) rfl k_) ?_
    refine own_stW (T' := T30) (g' := (mkF m 237 #[iv p0, iv p1, iv p2, iv p3, iv p4, iv (4 : Int32), iv (2 : Int32), iv c0, iv c1, iv c2, iv c3, rv b1, rv b4, iv (own_val c0), iv (own_val c1), iv (own_val c2), iv (own_val c3), iv (1 : Int32), iv (1 : Int32)] [(.int (own_val c3)), (.int ((own_val c2) * (16 : Int32))), (.int (((own_val c2 <<< ((4 : Int32) &&& 31)) ||| own_val c3).toInt8.toInt32))])) (fun _ k_ => XS.iload X30.here hx rfl (hb hby at_235) rfl  k_) ?_
    refine own_stW (T' := T30) (g' := (mkF m 238 #[iv p0, iv p1, iv p2, iv p3, iv p4, iv (4 : Int32), iv (2 : Int32), iv c0, iv c1, iv c2, iv c3, rv b1, rv b4, iv (own_val c0), iv (own_val c1), iv (own_val c2), iv (own_val c3), iv (1 : Int32), iv (1 : Int32)] [(.int (((own_val c2) * (16 : Int32)) + (own_val c3))), (.int (((own_val c2 <<< ((4 : Int32) &&& 31)) ||| own_val c3).toInt8.toInt32))])) (fun _ k_ => XS.iadd X30.here hx rfl (hb hby at_237) rfl k_) ?_
    refine own_stW (T' := T30) (g' := (mkF m 239 #[iv p0, iv p1, iv p2, iv p3, iv p4, iv (4 : Int32), iv (2 : Int32), iv c0, iv c1, iv c2, iv c3, rv b1, rv b4, iv (own_val c0), iv (own_val c1), iv (own_val c2), iv (own_val c3), iv (1 : Int32), iv (1 : Int32)] [(.int ((((own_val c2) * (16 : Int32)) + (own_val c3)).toInt8.toInt32)), (.int (((own_val c2 <<< ((4 : Int32) &&& 31)) ||| own_val c3).toInt8.toInt32))])) (fun _ k_ => XS.i2b X30.here hx rfl (hb hby at_238) rfl k_) ?_
    refine own_stW (T' := T30) (g' := (mkF m 244 #[iv p0, iv p1, iv p2, iv p3, iv p4, iv (4 : Int32), iv (2 : Int32), iv c0, iv c1, iv c2, iv c3, rv b1, rv b4, iv (own_val c0), iv (own_val c1), iv (own_val c2), iv (own_val c3), iv (1 : Int32), iv (1 : Int32)] [])) (fun _ k_ => XS.icmpYes X30.here hx rfl (pc0 := 239) (pc' := 244) rfl (hb hby at_239) rfl (teq ((own_hexb (own_or (fun q => hbad (Or.inr q))).1 (own_or (fun q => hbad (Or.inr q))).2) : (((own_val c2 <<< ((4 : Int32) &&& 31)) ||| own_val c3).toInt8.toInt32) = ((((own_val c2) * (16 : Int32)) + (own_val c3)).toInt8.toInt32))).1 (by decide) (by decide) k_) ?_
    refine own_stW (T' := T30) (g' := (mkF m 245 #[iv p0, iv p1, iv p2, iv p3, iv p4, iv (4 : Int32), iv (2 : Int32), iv c0, iv c1, iv c2, iv c3, rv b1, rv b4, iv (own_val c0), iv (own_val c1), iv (own_val c2), iv (own_val c3), iv (1 : Int32), iv (1 : Int32)] [(.int (1 : Int32))])) (fun _ k_ => XS.iconst X30.here hx rfl (hb hby at_244) k_) ?_
    exact own_retNW X30 hZ1 hS1 (by rw [eq30]; exact (Nat.le_trans (Nat.le_refl _) K4.1)) hEL (by rw [eq30]; exact CR5) hx (t := .boolean) hret (by simp) hlk (hb hby at_245) (by decide) (by decide) ⟨rfl, N30⟩
theorem own_mod3 (x : Int32) : (x &&& 3) % 3 = 0 ∨ (x &&& 3) % 3 = 1 ∨ (x &&& 3) % 3 = 2 := by
  have e := c_mask x 3 2 (by decide) (by decide)
  have z : ((2 ^ 2 : Nat) : Int) = 4 := rfl
  have k := (c_irem (x &&& 3) 3 3 (by decide)).1 (by omega)
  have h : ((x &&& 3) % 3).toInt = 0 ∨ ((x &&& 3) % 3).toInt = 1 ∨ ((x &&& 3) % 3).toInt = 2 := by omega
  rcases h with h | h | h
  · exact Or.inl (own_eqI h)
  · exact Or.inr (Or.inl (own_eqI h))
  · exact Or.inr (Or.inr (own_eqI h))
theorem own_mod5 (x : Int32) : (x &&& 7) % 5 = 0 ∨ (x &&& 7) % 5 = 1 ∨ (x &&& 7) % 5 = 2 ∨ (x &&& 7) % 5 = 3 ∨ (x &&& 7) % 5 = 4 := by
  have e := c_mask x 7 3 (by decide) (by decide)
  have z : ((2 ^ 3 : Nat) : Int) = 8 := rfl
  have k := (c_irem (x &&& 7) 5 5 (by decide)).1 (by omega)
  have h : ((x &&& 7) % 5).toInt = 0 ∨ ((x &&& 7) % 5).toInt = 1 ∨ ((x &&& 7) % 5).toInt = 2 ∨ ((x &&& 7) % 5).toInt = 3 ∨ ((x &&& 7) % 5).toInt = 4 := by omega
  rcases h with h | h | h | h | h
  · exact Or.inl (own_eqI h)
  · exact Or.inr (Or.inl (own_eqI h))
  · exact Or.inr (Or.inr (Or.inl (own_eqI h)))
  · exact Or.inr (Or.inr (Or.inr (Or.inl (own_eqI h))))
  · exact Or.inr (Or.inr (Or.inr (Or.inr (own_eqI h))))
theorem ef_0 (m : MethodId) (x0 : Int32) (x1 : Int32) (x2 : Int32) (x3 : Int32) (x4 : Int32) : entryFrame m #[(.int x0), (.int x1), (.int x2), (.int x3), (.int x4)] maxLocals = mkF m 0 #[iv x0, iv x1, iv x2, iv x3, iv x4, .unset, .unset, .unset, .unset, .unset, .unset, .unset, .unset, .unset, .unset, .unset, .unset, .unset, .unset] [] := by first | (simp [entryFrame, mkF, argsToLocals, Value.category, maxLocals]; done) | rfl
set_option maxRecDepth 65536 in
set_option maxHeartbeats 40000000 in
theorem rm_0 (l : Launch) (Z : State) (a0 : Array Value) (hw : ∀ d ∈ tables_1, d.before a0 Z = true) (ws : List Jvm.Cond) (p0 : Int32) (p1 : Int32) (p2 : Int32) (p3 : Int32) (p4 : Int32) (cz : Int32) (fm : Value) (hv_ : Addr) (clV : Cell) (h0 : Heap) (n0 : Nat) (O0 : Old Z n0 h0) (SC : Sta Z Z.heap "java/lang/String" "COMPACT_STRINGS" "Z" (.int cz)) (hcz : ¬ cz = (0 : Int32)) (SF : Sta Z Z.heap "jdk/internal/util/Preconditions" "SIOOBE_FORMATTER" "Ljava/util/function/BiFunction;" fm) (hfm : fm.isRef = true) (SV : Sta Z Z.heap "com/example/vouchsafe/vouchsafe/Digests" "HEX_VALUES" "[B" (.ref hv_)) (HV : own_HV Z hv_ clV) :
    MetFree l x (head1 (Jvm.Cond.code x code maxLocals ret :: ws) room_1) (fun ar_ U => ar_ = #[(.int p0), (.int p1), (.int p2), (.int p3), (.int p4)] ∧ Z.Warmed39 U.vm ∧ U.heap = h0 ∧ CHv Z consts_1 U.vm h0 ∧ ∀ x ∈ ([] : List Addr), Safe Z consts_1 U.vm h0 x) (fun _ _ _ _ _ => True) (fun _ U o U' => ∃ v L, o = .returned v ∧ own_L n0 v U'.heap L ∧ CHr Z consts_1 U.vm U.heap U'.vm U'.heap ∧ ReturnedEndW U o U' L room_1.cells room_1.slots) := by
  refine MetFree.of_bodySF (plainFor_of_name pn_2) hisR ?_
  intro p e s m args below meth c s₁ Bd hml0 hP hK
  obtain ⟨rfl, hZ, hh, CH0, SF0⟩ := hP
  have hx := Bd.exec
  have hby := Bd.bytes
  have hml : c.maxLocals = 19 := hml0
  have hown : s.vm.findClass "com/example/vouchsafe/vouchsafe/DigestsReadHexPinLaw" = some m.cls := findClass_of_methodNamed Bd.named
  have hnm := (name_of_methodNamed Bd.named Bd.method).1
  have X0 : Stand p l e room_1 (s.setVm s.vm) m #[(.int p0), (.int p1), (.int p2), (.int p3), (.int p4)] below meth c s₁ [] 0 0 := Stand.of_body Bd
  have e0 : s₁.heap = h0 := by rw [← hh, Bd.state]; rfl
  have N0 := Fr.nil n0
  have hret := Bd.returns
  have hlk : meth.locks = false := Bd.notSynchronized
  have hEL := own_EW hw
  have hZs := hZ
  have howns := hown
  have hS0 : s.Since s.vm s.heap.size := (State.WarmedH.refl s).since _
  have hk0 : s.heap.size ≤ h0.size := Nat.le_of_eq (by rw [hh])
  have CR0 := CHr.refl CH0
  refine own_W0 hh ?_
  show own_W p e below s room_1.cells room_1.slots Z consts_1 h0 (own_L n0) s₁ (entryFrame m #[(.int p0), (.int p1), (.int p2), (.int p3), (.int p4)] maxLocals)
  rw [ef_0 m p0 p1 p2 p3 p4]
  refine own_stW (T' := s₁) (g' := (mkF m 1 #[iv p0, iv p1, iv p2, iv p3, iv p4, .unset, .unset, .unset, .unset, .unset, .unset, .unset, .unset, .unset, .unset, .unset, .unset, .unset, .unset] [(.int p0)])) (fun _ k_ => XS.iloadN X0.here hx rfl (hb hby at_0) rfl  k_) ?_
  refine own_stW (T' := s₁) (g' := (mkF m 3 #[iv p0, iv p1, iv p2, iv p3, iv p4, .unset, .unset, .unset, .unset, .unset, .unset, .unset, .unset, .unset, .unset, .unset, .unset, .unset, .unset] [(.int (7 : Int32)), (.int p0)])) (fun _ k_ => XS.bipush X0.here hx rfl (hb hby at_1) k_) ?_
  refine own_stW (T' := s₁) (g' := (mkF m 4 #[iv p0, iv p1, iv p2, iv p3, iv p4, .unset, .unset, .unset, .unset, .unset, .unset, .unset, .unset, .unset, .unset, .unset, .unset, .unset, .unset] [(.int (p0 &&& (7 : Int32)))])) (fun _ k_ => XS.iand X0.here hx rfl (hb hby at_3) rfl k_) ?_
  refine own_stW (T' := s₁) (g' := (mkF m 5 #[iv p0, iv p1, iv p2, iv p3, iv p4, .unset, .unset, .unset, .unset, .unset, .unset, .unset, .unset, .unset, .unset, .unset, .unset, .unset, .unset] [(.int (5 : Int32)), (.int (p0 &&& (7 : Int32)))])) (fun _ k_ => XS.iconst X0.here hx rfl (hb hby at_4) k_) ?_
  refine own_stW (T' := s₁) (g' := (mkF m 6 #[iv p0, iv p1, iv p2, iv p3, iv p4, .unset, .unset, .unset, .unset, .unset, .unset, .unset, .unset, .unset, .unset, .unset, .unset, .unset, .unset] [(.int ((p0 &&& (7 : Int32)) % (5 : Int32)))])) (fun _ k_ => iremM X0 hx rfl (hb hby at_5) rfl (by decide) k_) ?_
  refine own_stW (T' := s₁) (g' := (mkF m 8 #[iv p0, iv p1, iv p2, iv p3, iv p4, iv ((p0 &&& (7 : Int32)) % (5 : Int32)), .unset, .unset, .unset, .unset, .unset, .unset, .unset, .unset, .unset, .unset, .unset, .unset, .unset] [])) (fun _ k_ => XS.istore X0.here hx rfl (hb hby at_6) rfl (l' := #[iv p0, iv p1, iv p2, iv p3, iv p4, iv ((p0 &&& (7 : Int32)) % (5 : Int32)), .unset, .unset, .unset, .unset, .unset, .unset, .unset, .unset, .unset, .unset, .unset, .unset, .unset]) rfl k_) ?_
  refine own_stW (T' := s₁) (g' := (mkF m 9 #[iv p0, iv p1, iv p2, iv p3, iv p4, iv ((p0 &&& (7 : Int32)) % (5 : Int32)), .unset, .unset, .unset, .unset, .unset, .unset, .unset, .unset, .unset, .unset, .unset, .unset, .unset] [(.int p0)])) (fun _ k_ => XS.iloadN X0.here hx rfl (hb hby at_8) rfl  k_) ?_
  refine own_stW (T' := s₁) (g' := (mkF m 10 #[iv p0, iv p1, iv p2, iv p3, iv p4, iv ((p0 &&& (7 : Int32)) % (5 : Int32)), .unset, .unset, .unset, .unset, .unset, .unset, .unset, .unset, .unset, .unset, .unset, .unset, .unset] [(.int (3 : Int32)), (.int p0)])) (fun _ k_ => XS.iconst X0.here hx rfl (hb hby at_9) k_) ?_
  refine own_stW (T' := s₁) (g' := (mkF m 11 #[iv p0, iv p1, iv p2, iv p3, iv p4, iv ((p0 &&& (7 : Int32)) % (5 : Int32)), .unset, .unset, .unset, .unset, .unset, .unset, .unset, .unset, .unset, .unset, .unset, .unset, .unset] [(.int ((p0.toUInt32 >>> ((3 : Int32) &&& 31).toUInt32).toInt32))])) (fun _ k_ => XS.iushr X0.here hx rfl (hb hby at_10) rfl k_) ?_
  refine own_stW (T' := s₁) (g' := (mkF m 12 #[iv p0, iv p1, iv p2, iv p3, iv p4, iv ((p0 &&& (7 : Int32)) % (5 : Int32)), .unset, .unset, .unset, .unset, .unset, .unset, .unset, .unset, .unset, .unset, .unset, .unset, .unset] [(.int (3 : Int32)), (.int ((p0.toUInt32 >>> ((3 : Int32) &&& 31).toUInt32).toInt32))])) (fun _ k_ => XS.iconst X0.here hx rfl (hb hby at_11) k_) ?_
  refine own_stW (T' := s₁) (g' := (mkF m 13 #[iv p0, iv p1, iv p2, iv p3, iv p4, iv ((p0 &&& (7 : Int32)) % (5 : Int32)), .unset, .unset, .unset, .unset, .unset, .unset, .unset, .unset, .unset, .unset, .unset, .unset, .unset] [(.int (((p0.toUInt32 >>> ((3 : Int32) &&& 31).toUInt32).toInt32) &&& (3 : Int32)))])) (fun _ k_ => XS.iand X0.here hx rfl (hb hby at_12) rfl k_) ?_
  refine own_stW (T' := s₁) (g' := (mkF m 14 #[iv p0, iv p1, iv p2, iv p3, iv p4, iv ((p0 &&& (7 : Int32)) % (5 : Int32)), .unset, .unset, .unset, .unset, .unset, .unset, .unset, .unset, .unset, .unset, .unset, .unset, .unset] [(.int (3 : Int32)), (.int (((p0.toUInt32 >>> ((3 : Int32) &&& 31).toUInt32).toInt32) &&& (3 : Int32)))])) (fun _ k_ => XS.iconst X0.here hx rfl (hb hby at_13) k_) ?_
  refine own_stW (T' := s₁) (g' := (mkF m 15 #[iv p0, iv p1, iv p2, iv p3, iv p4, iv ((p0 &&& (7 : Int32)) % (5 : Int32)), .unset, .unset, .unset, .unset, .unset, .unset, .unset, .unset, .unset, .unset, .unset, .unset, .unset] [(.int ((((p0.toUInt32 >>> ((3 : Int32) &&& 31).toUInt32).toInt32) &&& (3 : Int32)) % (3 : Int32)))])) (fun _ k_ => iremM X0 hx rfl (hb hby at_14) rfl (by decide) k_) ?_
  refine own_stW (T' := s₁) (g' := (mkF m 17 #[iv p0, iv p1, iv p2, iv p3, iv p4, iv ((p0 &&& (7 : Int32)) % (5 : Int32)), iv ((((p0.toUInt32 >>> ((3 : Int32) &&& 31).toUInt32).toInt32) &&& (3 : Int32)) % (3 : Int32)), .unset, .unset, .unset, .unset, .unset, .unset, .unset, .unset, .unset, .unset, .unset, .unset] [])) (fun _ k_ => XS.istore X0.here hx rfl (hb hby at_15) rfl (l' := #[iv p0, iv p1, iv p2, iv p3, iv p4, iv ((p0 &&& (7 : Int32)) % (5 : Int32)), iv ((((p0.toUInt32 >>> ((3 : Int32) &&& 31).toUInt32).toInt32) &&& (3 : Int32)) % (3 : Int32)), .unset, .unset, .unset, .unset, .unset, .unset, .unset, .unset, .unset, .unset, .unset, .unset]) rfl k_) ?_
  refine own_stW (T' := s₁) (g' := (mkF m 18 #[iv p0, iv p1, iv p2, iv p3, iv p4, iv ((p0 &&& (7 : Int32)) % (5 : Int32)), iv ((((p0.toUInt32 >>> ((3 : Int32) &&& 31).toUInt32).toInt32) &&& (3 : Int32)) % (3 : Int32)), .unset, .unset, .unset, .unset, .unset, .unset, .unset, .unset, .unset, .unset, .unset, .unset] [(.int p1)])) (fun _ k_ => XS.iloadN X0.here hx rfl (hb hby at_17) rfl  k_) ?_
  obtain ⟨_, T1, L1, X1, hS1, hQ1, ch1, st1⟩ := own_callSW X0 hx (y := own_m6) hown (mvT hZ (hw _ (List.mem_of_getElem? (i := 0) rfl))) (mvT hZ (hw _ (List.mem_of_getElem? (i := 1) rfl))) (mvT hZ (hw _ (List.mem_of_getElem? (i := 2) rfl))) (mvT hZ (hw _ (List.mem_of_getElem? (i := 3) rfl))) (by decide) (own_backW (W := 0) (rm_draw l Z a0 hw [] p1 cz fm h0 n0 O0 SC hcz SF hfm) hZ (hw _ (List.mem_of_getElem? (i := 3) rfl)) (hw _ (List.mem_of_getElem? (i := 2) rfl)) (by decide) (by decide) hEL CR0.1 sf0 all0) (g := (mkF m 18 #[iv p0, iv p1, iv p2, iv p3, iv p4, iv ((p0 &&& (7 : Int32)) % (5 : Int32)), iv ((((p0.toUInt32 >>> ((3 : Int32) &&& 31).toUInt32).toInt32) &&& (3 : Int32)) % (3 : Int32)), .unset, .unset, .unset, .unset, .unset, .unset, .unset, .unset, .unset, .unset, .unset, .unset] [(.int p1)])) rfl (by rw [hml]; rfl) (argsL := [(.int p1)]) (rest := []) (lenOf pd__I_C rfl) rfl (by show 2 * 0 + _ ≤ _; exact Nat.le_of_eq rfl) (hb hby at_18) rfl e0 (by decide) (by decide) (c' := 2) (s' := 68) rfl rfl hS0 hk0
  obtain ⟨rfl, Nq1, K1⟩ := hQ1
  have N1 := Fr.app N0 Nq1
  have CR2 : CHr Z consts_1 s.vm h0 T1.vm T1.heap := CR0.trans ch1
  have hZ1 : Z.Warmed39 (s.setVm T1.vm).vm := own_hZ hZs hS1
  have hown1 : (s.setVm T1.vm).vm.findClass "com/example/vouchsafe/vouchsafe/DigestsReadHexPinLaw" = some m.cls := own_hown howns hS1
  refine own_stW (T' := T1) (g' := (mkF m 21 #[iv p0, iv p1, iv p2, iv p3, iv p4, iv ((p0 &&& (7 : Int32)) % (5 : Int32)), iv ((((p0.toUInt32 >>> ((3 : Int32) &&& 31).toUInt32).toInt32) &&& (3 : Int32)) % (3 : Int32)), .unset, .unset, .unset, .unset, .unset, .unset, .unset, .unset, .unset, .unset, .unset, .unset] [(.int (own_draw p1))])) st1 ?_
  clear st1
  refine own_stW (T' := T1) (g' := (mkF m 23 #[iv p0, iv p1, iv p2, iv p3, iv p4, iv ((p0 &&& (7 : Int32)) % (5 : Int32)), iv ((((p0.toUInt32 >>> ((3 : Int32) &&& 31).toUInt32).toInt32) &&& (3 : Int32)) % (3 : Int32)), iv (own_draw p1), .unset, .unset, .unset, .unset, .unset, .unset, .unset, .unset, .unset, .unset, .unset] [])) (fun _ k_ => XS.istore X1.here hx rfl (hb hby at_21) rfl (l' := #[iv p0, iv p1, iv p2, iv p3, iv p4, iv ((p0 &&& (7 : Int32)) % (5 : Int32)), iv ((((p0.toUInt32 >>> ((3 : Int32) &&& 31).toUInt32).toInt32) &&& (3 : Int32)) % (3 : Int32)), iv (own_draw p1), .unset, .unset, .unset, .unset, .unset, .unset, .unset, .unset, .unset, .unset, .unset]) rfl k_) ?_
  refine own_stW (T' := T1) (g' := (mkF m 24 #[iv p0, iv p1, iv p2, iv p3, iv p4, iv ((p0 &&& (7 : Int32)) % (5 : Int32)), iv ((((p0.toUInt32 >>> ((3 : Int32) &&& 31).toUInt32).toInt32) &&& (3 : Int32)) % (3 : Int32)), iv (own_draw p1), .unset, .unset, .unset, .unset, .unset, .unset, .unset, .unset, .unset, .unset, .unset] [(.int p2)])) (fun _ k_ => XS.iloadN X1.here hx rfl (hb hby at_23) rfl  k_) ?_
  have f3 : Old Z n0 T1.heap := O0.keep K1 all0
  obtain ⟨_, T4, L4, X4, hS4, hQ4, ch4, st4⟩ := own_callSW X1 hx (y := own_m6) hown1 (mvT hZ1 (hw _ (List.mem_of_getElem? (i := 0) rfl))) (mvT hZ1 (hw _ (List.mem_of_getElem? (i := 1) rfl))) (mvT hZ1 (hw _ (List.mem_of_getElem? (i := 2) rfl))) (mvT hZ1 (hw _ (List.mem_of_getElem? (i := 3) rfl))) (by decide) (own_backW (W := 0) (rm_draw l Z a0 hw [] p2 cz fm T1.heap n0 f3 SC hcz SF hfm) hZ1 (hw _ (List.mem_of_getElem? (i := 3) rfl)) (hw _ (List.mem_of_getElem? (i := 2) rfl)) (by decide) (by decide) hEL CR2.1 sf0 all0) (g := (mkF m 24 #[iv p0, iv p1, iv p2, iv p3, iv p4, iv ((p0 &&& (7 : Int32)) % (5 : Int32)), iv ((((p0.toUInt32 >>> ((3 : Int32) &&& 31).toUInt32).toInt32) &&& (3 : Int32)) % (3 : Int32)), iv (own_draw p1), .unset, .unset, .unset, .unset, .unset, .unset, .unset, .unset, .unset, .unset, .unset] [(.int p2)])) rfl (by rw [hml]; rfl) (argsL := [(.int p2)]) (rest := []) (lenOf pd__I_C rfl) rfl (by show 2 * 0 + _ ≤ _; exact Nat.le_of_eq rfl) (hb hby at_24) rfl rfl (by decide) (by decide) (c' := 4) (s' := 136) rfl rfl hS1 (Nat.le_refl _)
  obtain ⟨rfl, Nq4, K4⟩ := hQ4
  have N4 := Fr.app N1 Nq4
  have CR5 : CHr Z consts_1 s.vm h0 T4.vm T4.heap := CR2.trans ch4
  have hZ4 : Z.Warmed39 (s.setVm T4.vm).vm := own_hZ hZs hS4
  have hown4 : (s.setVm T4.vm).vm.findClass "com/example/vouchsafe/vouchsafe/DigestsReadHexPinLaw" = some m.cls := own_hown howns hS4
  refine own_stW (T' := T4) (g' := (mkF m 27 #[iv p0, iv p1, iv p2, iv p3, iv p4, iv ((p0 &&& (7 : Int32)) % (5 : Int32)), iv ((((p0.toUInt32 >>> ((3 : Int32) &&& 31).toUInt32).toInt32) &&& (3 : Int32)) % (3 : Int32)), iv (own_draw p1), .unset, .unset, .unset, .unset, .unset, .unset, .unset, .unset, .unset, .unset, .unset] [(.int (own_draw p2))])) st4 ?_
  clear st4
  refine own_stW (T' := T4) (g' := (mkF m 29 #[iv p0, iv p1, iv p2, iv p3, iv p4, iv ((p0 &&& (7 : Int32)) % (5 : Int32)), iv ((((p0.toUInt32 >>> ((3 : Int32) &&& 31).toUInt32).toInt32) &&& (3 : Int32)) % (3 : Int32)), iv (own_draw p1), iv (own_draw p2), .unset, .unset, .unset, .unset, .unset, .unset, .unset, .unset, .unset, .unset] [])) (fun _ k_ => XS.istore X4.here hx rfl (hb hby at_27) rfl (l' := #[iv p0, iv p1, iv p2, iv p3, iv p4, iv ((p0 &&& (7 : Int32)) % (5 : Int32)), iv ((((p0.toUInt32 >>> ((3 : Int32) &&& 31).toUInt32).toInt32) &&& (3 : Int32)) % (3 : Int32)), iv (own_draw p1), iv (own_draw p2), .unset, .unset, .unset, .unset, .unset, .unset, .unset, .unset, .unset, .unset]) rfl k_) ?_
  refine own_stW (T' := T4) (g' := (mkF m 30 #[iv p0, iv p1, iv p2, iv p3, iv p4, iv ((p0 &&& (7 : Int32)) % (5 : Int32)), iv ((((p0.toUInt32 >>> ((3 : Int32) &&& 31).toUInt32).toInt32) &&& (3 : Int32)) % (3 : Int32)), iv (own_draw p1), iv (own_draw p2), .unset, .unset, .unset, .unset, .unset, .unset, .unset, .unset, .unset, .unset] [(.int p3)])) (fun _ k_ => XS.iloadN X4.here hx rfl (hb hby at_29) rfl  k_) ?_
  have f6 : Old Z n0 T4.heap := f3.keep K4 all0
  obtain ⟨_, T7, L7, X7, hS7, hQ7, ch7, st7⟩ := own_callSW X4 hx (y := own_m6) hown4 (mvT hZ4 (hw _ (List.mem_of_getElem? (i := 0) rfl))) (mvT hZ4 (hw _ (List.mem_of_getElem? (i := 1) rfl))) (mvT hZ4 (hw _ (List.mem_of_getElem? (i := 2) rfl))) (mvT hZ4 (hw _ (List.mem_of_getElem? (i := 3) rfl))) (by decide) (own_backW (W := 0) (rm_draw l Z a0 hw [] p3 cz fm T4.heap n0 f6 SC hcz SF hfm) hZ4 (hw _ (List.mem_of_getElem? (i := 3) rfl)) (hw _ (List.mem_of_getElem? (i := 2) rfl)) (by decide) (by decide) hEL CR5.1 sf0 all0) (g := (mkF m 30 #[iv p0, iv p1, iv p2, iv p3, iv p4, iv ((p0 &&& (7 : Int32)) % (5 : Int32)), iv ((((p0.toUInt32 >>> ((3 : Int32) &&& 31).toUInt32).toInt32) &&& (3 : Int32)) % (3 : Int32)), iv (own_draw p1), iv (own_draw p2), .unset, .unset, .unset, .unset, .unset, .unset, .unset, .unset, .unset, .unset] [(.int p3)])) rfl (by rw [hml]; rfl) (argsL := [(.int p3)]) (rest := []) (lenOf pd__I_C rfl) rfl (by show 2 * 0 + _ ≤ _; exact Nat.le_of_eq rfl) (hb hby at_30) rfl rfl (by decide) (by decide) (c' := 6) (s' := 204) rfl rfl hS4 (Nat.le_refl _)
  obtain ⟨rfl, Nq7, K7⟩ := hQ7
  have N7 := Fr.app N4 Nq7
  have CR8 : CHr Z consts_1 s.vm h0 T7.vm T7.heap := CR5.trans ch7
  have hZ7 : Z.Warmed39 (s.setVm T7.vm).vm := own_hZ hZs hS7
  have hown7 : (s.setVm T7.vm).vm.findClass "com/example/vouchsafe/vouchsafe/DigestsReadHexPinLaw" = some m.cls := own_hown howns hS7
  refine own_stW (T' := T7) (g' := (mkF m 33 #[iv p0, iv p1, iv p2, iv p3, iv p4, iv ((p0 &&& (7 : Int32)) % (5 : Int32)), iv ((((p0.toUInt32 >>> ((3 : Int32) &&& 31).toUInt32).toInt32) &&& (3 : Int32)) % (3 : Int32)), iv (own_draw p1), iv (own_draw p2), .unset, .unset, .unset, .unset, .unset, .unset, .unset, .unset, .unset, .unset] [(.int (own_draw p3))])) st7 ?_
  clear st7
  refine own_stW (T' := T7) (g' := (mkF m 35 #[iv p0, iv p1, iv p2, iv p3, iv p4, iv ((p0 &&& (7 : Int32)) % (5 : Int32)), iv ((((p0.toUInt32 >>> ((3 : Int32) &&& 31).toUInt32).toInt32) &&& (3 : Int32)) % (3 : Int32)), iv (own_draw p1), iv (own_draw p2), iv (own_draw p3), .unset, .unset, .unset, .unset, .unset, .unset, .unset, .unset, .unset] [])) (fun _ k_ => XS.istore X7.here hx rfl (hb hby at_33) rfl (l' := #[iv p0, iv p1, iv p2, iv p3, iv p4, iv ((p0 &&& (7 : Int32)) % (5 : Int32)), iv ((((p0.toUInt32 >>> ((3 : Int32) &&& 31).toUInt32).toInt32) &&& (3 : Int32)) % (3 : Int32)), iv (own_draw p1), iv (own_draw p2), iv (own_draw p3), .unset, .unset, .unset, .unset, .unset, .unset, .unset, .unset, .unset]) rfl k_) ?_
  refine own_stW (T' := T7) (g' := (mkF m 37 #[iv p0, iv p1, iv p2, iv p3, iv p4, iv ((p0 &&& (7 : Int32)) % (5 : Int32)), iv ((((p0.toUInt32 >>> ((3 : Int32) &&& 31).toUInt32).toInt32) &&& (3 : Int32)) % (3 : Int32)), iv (own_draw p1), iv (own_draw p2), iv (own_draw p3), .unset, .unset, .unset, .unset, .unset, .unset, .unset, .unset, .unset] [(.int p4)])) (fun _ k_ => XS.iload X7.here hx rfl (hb hby at_35) rfl  k_) ?_
  have f9 : Old Z n0 T7.heap := f6.keep K7 all0
  obtain ⟨_, T10, L10, X10, hS10, hQ10, ch10, st10⟩ := own_callSW X7 hx (y := own_m6) hown7 (mvT hZ7 (hw _ (List.mem_of_getElem? (i := 0) rfl))) (mvT hZ7 (hw _ (List.mem_of_getElem? (i := 1) rfl))) (mvT hZ7 (hw _ (List.mem_of_getElem? (i := 2) rfl))) (mvT hZ7 (hw _ (List.mem_of_getElem? (i := 3) rfl))) (by decide) (own_backW (W := 0) (rm_draw l Z a0 hw [] p4 cz fm T7.heap n0 f9 SC hcz SF hfm) hZ7 (hw _ (List.mem_of_getElem? (i := 3) rfl)) (hw _ (List.mem_of_getElem? (i := 2) rfl)) (by decide) (by decide) hEL CR8.1 sf0 all0) (g := (mkF m 37 #[iv p0, iv p1, iv p2, iv p3, iv p4, iv ((p0 &&& (7 : Int32)) % (5 : Int32)), iv ((((p0.toUInt32 >>> ((3 : Int32) &&& 31).toUInt32).toInt32) &&& (3 : Int32)) % (3 : Int32)), iv (own_draw p1), iv (own_draw p2), iv (own_draw p3), .unset, .unset, .unset, .unset, .unset, .unset, .unset, .unset, .unset] [(.int p4)])) rfl (by rw [hml]; rfl) (argsL := [(.int p4)]) (rest := []) (lenOf pd__I_C rfl) rfl (by show 2 * 0 + _ ≤ _; exact Nat.le_of_eq rfl) (hb hby at_37) rfl rfl (by decide) (by decide) (c' := 8) (s' := 272) rfl rfl hS7 (Nat.le_refl _)
  obtain ⟨rfl, Nq10, K10⟩ := hQ10
  have N10 := Fr.app N7 Nq10
  have CR11 : CHr Z consts_1 s.vm h0 T10.vm T10.heap := CR8.trans ch10
  have hZ10 : Z.Warmed39 (s.setVm T10.vm).vm := own_hZ hZs hS10
  have hown10 : (s.setVm T10.vm).vm.findClass "com/example/vouchsafe/vouchsafe/DigestsReadHexPinLaw" = some m.cls := own_hown howns hS10
  refine own_stW (T' := T10) (g' := (mkF m 40 #[iv p0, iv p1, iv p2, iv p3, iv p4, iv ((p0 &&& (7 : Int32)) % (5 : Int32)), iv ((((p0.toUInt32 >>> ((3 : Int32) &&& 31).toUInt32).toInt32) &&& (3 : Int32)) % (3 : Int32)), iv (own_draw p1), iv (own_draw p2), iv (own_draw p3), .unset, .unset, .unset, .unset, .unset, .unset, .unset, .unset, .unset] [(.int (own_draw p4))])) st10 ?_
  clear st10
  refine own_stW (T' := T10) (g' := (mkF m 42 #[iv p0, iv p1, iv p2, iv p3, iv p4, iv ((p0 &&& (7 : Int32)) % (5 : Int32)), iv ((((p0.toUInt32 >>> ((3 : Int32) &&& 31).toUInt32).toInt32) &&& (3 : Int32)) % (3 : Int32)), iv (own_draw p1), iv (own_draw p2), iv (own_draw p3), iv (own_draw p4), .unset, .unset, .unset, .unset, .unset, .unset, .unset, .unset] [])) (fun _ k_ => XS.istore X10.here hx rfl (hb hby at_40) rfl (l' := #[iv p0, iv p1, iv p2, iv p3, iv p4, iv ((p0 &&& (7 : Int32)) % (5 : Int32)), iv ((((p0.toUInt32 >>> ((3 : Int32) &&& 31).toUInt32).toInt32) &&& (3 : Int32)) % (3 : Int32)), iv (own_draw p1), iv (own_draw p2), iv (own_draw p3), iv (own_draw p4), .unset, .unset, .unset, .unset, .unset, .unset, .unset, .unset]) rfl k_) ?_
  have f12 : Old Z n0 T10.heap := f9.keep K10 all0
  have hnn := own_mod5 p0
  have hl2 := own_mod3 ((p0.toUInt32 >>> ((3 : Int32) &&& 31).toUInt32).toInt32)
  by_cases hne : (p0 &&& 7) % 5 = (2 : Int32) * ((((p0.toUInt32 >>> ((3 : Int32) &&& 31).toUInt32).toInt32) &&& 3) % 3)
  · rcases hl2 with hl | hl | hl
    · have hn : (p0 &&& 7) % 5 = (0 : Int32) := by rw [hne, hl]; rfl
      rw [hn, hl]
      exact seg_t0 h0 T10.heap n0 p0 p1 p2 p3 p4 (own_draw p1) (own_draw p2) (own_draw p3) (own_draw p4) cz fm hv_ clV X10 hx hZs hZ10 hS10 (Nat.le_refl _) CR11 hw hby hml howns hown10 hnm hret hlk rfl N10 f12 (own_dR p1) (own_dR p2) (own_dR p3) (own_dR p4) SC hcz SF hfm SV HV
    · have hn : (p0 &&& 7) % 5 = (2 : Int32) := by rw [hne, hl]; rfl
      rw [hn, hl]
      exact seg_t1 h0 T10.heap n0 p0 p1 p2 p3 p4 (own_draw p1) (own_draw p2) (own_draw p3) (own_draw p4) cz fm hv_ clV X10 hx hZs hZ10 hS10 (Nat.le_refl _) CR11 hw hby hml howns hown10 hnm hret hlk rfl N10 f12 (own_dR p1) (own_dR p2) (own_dR p3) (own_dR p4) SC hcz SF hfm SV HV
    · have hn : (p0 &&& 7) % 5 = (4 : Int32) := by rw [hne, hl]; rfl
      rw [hn, hl]
      exact seg_t2 h0 T10.heap n0 p0 p1 p2 p3 p4 (own_draw p1) (own_draw p2) (own_draw p3) (own_draw p4) cz fm hv_ clV X10 hx hZs hZ10 hS10 (Nat.le_refl _) CR11 hw hby hml howns hown10 hnm hret hlk rfl N10 f12 (own_dR p1) (own_dR p2) (own_dR p3) (own_dR p4) SC hcz SF hfm SV HV
  · exact seg_bad h0 T10.heap n0 p0 p1 p2 p3 p4 _ _ (own_draw p1) (own_draw p2) (own_draw p3) (own_draw p4) cz X10 hx hZs hZ10 hS10 (Nat.le_refl _) CR11 hw hby hml howns hown10 hnm hret hlk rfl N10 f12 (own_dR p1) (own_dR p2) (own_dR p3) (own_dR p4) SC hcz hnn hl2 hne
theorem own_hv0 {Z : State} {args : Array Value} {a : Addr} {cl : Cell} {t : Term} (hf : Fit Z) (ev : ∀ idx, t.eval args Z none idx Z = some (.ref a)) (A : Arr Z Z.heap a cl .byte) (hl : (Jvm.Cond.eq (Term.length t) (Term.int (128 : Int32))).value args Z none Z [] = some true)
    (h1 : (Jvm.Cond.all t (Jvm.Cond.or (Jvm.Cond.le (Term.int (48 : Int32)) (Term.index 0)) (Jvm.Cond.eq (Term.elem t (Term.index 0)) (Term.int (-1 : Int32))))).value args Z none Z [] = some true) (h2 : (Jvm.Cond.all t (Jvm.Cond.or (Jvm.Cond.lt (Term.index 0) (Term.int (48 : Int32))) (Jvm.Cond.or (Jvm.Cond.le (Term.int (58 : Int32)) (Term.index 0)) (Jvm.Cond.eq (Term.elem t (Term.index 0)) (Term.sub (Term.index 0) (Term.int (48 : Int32))))))).value args Z none Z [] = some true) (h3 : (Jvm.Cond.all t (Jvm.Cond.or (Jvm.Cond.lt (Term.index 0) (Term.int (58 : Int32))) (Jvm.Cond.or (Jvm.Cond.le (Term.int (97 : Int32)) (Term.index 0)) (Jvm.Cond.eq (Term.elem t (Term.index 0)) (Term.int (-1 : Int32)))))).value args Z none Z [] = some true) (h4 : (Jvm.Cond.all t (Jvm.Cond.or (Jvm.Cond.lt (Term.index 0) (Term.int (97 : Int32))) (Jvm.Cond.or (Jvm.Cond.le (Term.int (103 : Int32)) (Term.index 0)) (Jvm.Cond.eq (Term.elem t (Term.index 0)) (Term.sub (Term.index 0) (Term.int (87 : Int32))))))).value args Z none Z [] = some true) (h5 : (Jvm.Cond.all t (Jvm.Cond.or (Jvm.Cond.lt (Term.index 0) (Term.int (103 : Int32))) (Jvm.Cond.eq (Term.elem t (Term.index 0)) (Term.int (-1 : Int32))))).value args Z none Z [] = some true) : own_HV Z a cl := by
  have hat : Z.arrayAt? a = some cl := A.fin (Vm.Alike.refl _)
  have hsz : cl.slots.size = 128 := by
    by_cases q : cl.slots.size < 2 ^ 31
    · have e1 := len_f (ev []) hat q
      have e2 : cl.slots.size.toInt32 = 128 := gotT (Cond.eq_ints e1 rfl) hl
      have e3 := len_toInt q
      rw [e2] at e3
      have e4 : (128 : Int32).toInt = 128 := rfl
      omega
    · exfalso
      have e1 : (Term.length t).eval args Z none [] Z = none := by simp [Term.eval, ev, hat, q]
      obtain ⟨x, y, q1, -⟩ := cmp_v (Or.inl hl)
      rw [e1] at q1; cases q1
  refine ⟨A, hsz, fun j hj0 hj1 => ?_⟩
  have z0 : (0 : Int32).toInt = 0 := rfl
  have z128 : (128 : Int32).toInt = 128 := rfl
  have z48 : (48 : Int32).toInt = 48 := rfl
  have z57 : (57 : Int32).toInt = 57 := rfl
  have z58 : (58 : Int32).toInt = 58 := rfl
  have z97 : (97 : Int32).toInt = 97 := rfl
  have z102 : (102 : Int32).toInt = 102 := rfl
  have z103 : (103 : Int32).toInt = 103 := rfl
  have z87 : (87 : Int32).toInt = 87 := rfl
  have z10 : (10 : Int32).toInt = 10 := rfl
  have zm1 : (-1 : Int32).toInt = -1 := rfl
  have hj := own_in128 hsz hj0 hj1
  obtain ⟨v, e1, e2⟩ := elem_fit hf A hj
  obtain ⟨x, rfl⟩ := fit_I e2 (by simp)
  have lt : j.toNatClampNeg < cl.slots.size := Nat.lt_of_not_le fun q => hj (Or.inr q)
  have ix : (Term.index 0).eval args Z none [j.toNatClampNeg] Z = some (.int j) := idx_at hj0
  have el : (Term.elem t (Term.index 0)).eval args Z none [j.toNatClampNeg] Z = some (.int x) := (elem_f (ev _) ix hat hj0).trans e1
  have w1 := Cond.all_elim (ev []) hat h1 _ lt
  have w2 := Cond.all_elim (ev []) hat h2 _ lt
  have w3 := Cond.all_elim (ev []) hat h3 _ lt
  have w4 := Cond.all_elim (ev []) hat h4 _ lt
  have w5 := Cond.all_elim (ev []) hat h5 _ lt
  have LEv : ∀ k : Int32, ¬ k ≤ j → (Jvm.Cond.le (Term.int k) (Term.index 0)).value args Z none Z [j.toNatClampNeg] = some false := fun k h => nay (Cond.le_ints rfl ix) h
  have LTv : ∀ k : Int32, ¬ j < k → (Jvm.Cond.lt (Term.index 0) (Term.int k)).value args Z none Z [j.toNatClampNeg] = some false := fun k h => nay (Cond.lt_ints ix rfl) h
  have EQv : ∀ k : Int32, (Jvm.Cond.eq (Term.elem t (Term.index 0)) (Term.int k)).value args Z none Z [j.toNatClampNeg] = some true → x = k := fun k h => gotT (Cond.eq_ints el rfl) h
  have EQs : ∀ k : Int32, (Jvm.Cond.eq (Term.elem t (Term.index 0)) (Term.sub (Term.index 0) (Term.int k))).value args Z none Z [j.toNatClampNeg] = some true → x = j - k := fun k h => gotT (Cond.eq_ints el (by simp [Term.eval, ix] at ix ⊢ <;> simp [ix])) h
  rw [e1]
  suffices e : x = own_val j by rw [e]
  unfold own_val
  by_cases c1 : j < 48
  · rw [if_pos c1, if_pos (by rw [Int32.lt_iff_toInt_lt] at c1 ⊢; omega)]
    rw [Cond.or_of_right (LEv 48 (Int32.not_le.mpr c1))] at w1; exact EQv _ w1
  · rw [if_neg c1]
    by_cases c2 : 57 < j
    · rw [if_pos c2]
      by_cases c3 : j < 97
      · rw [if_pos c3]
        rw [Cond.or_of_right (LTv 58 (by rw [Int32.lt_iff_toInt_lt] at c2 ⊢; omega)), Cond.or_of_right (LEv 97 (Int32.not_le.mpr c3))] at w3; exact EQv _ w3
      · rw [if_neg c3]
        by_cases c4 : 102 < j
        · rw [if_pos c4]
          rw [Cond.or_of_right (LTv 103 (by rw [Int32.lt_iff_toInt_lt] at c4 ⊢; omega))] at w5; exact EQv _ w5
        · rw [if_neg c4]
          rw [Cond.or_of_right (LTv 97 c3), Cond.or_of_right (LEv 103 (by rw [Int32.le_iff_toInt_le]; rw [Int32.lt_iff_toInt_lt] at c4; omega))] at w4
          rw [EQs _ w4]
          have k1 := c_isub j 87
          have k2 := c_isub j 97
          have k3 := c_iadd (j - 97) 10
          have b1 := (j - 87).le_toInt; have b2 := (j - 87).toInt_lt
          have b3 := (j - 97).le_toInt; have b4 := (j - 97).toInt_lt
          have b5 := (j - 97 + 10).le_toInt; have b6 := (j - 97 + 10).toInt_lt
          exact own_eqI (by simp only [Int32.lt_iff_toInt_lt] at c3 c4 hj0 hj1; omega)
    · rw [if_neg c2]
      rw [Cond.or_of_right (LTv 48 c1), Cond.or_of_right (LEv 58 (by rw [Int32.le_iff_toInt_le]; rw [Int32.lt_iff_toInt_lt] at c2; omega))] at w2
      exact EQs _ w2
set_option maxRecDepth 65536 in
set_option maxHeartbeats 40000000 in
theorem comes_1 {Post : Tables → Env → Array Value → State → Outcome → State → Prop} (hpost : ∀ tb e args s v u, (limb_1_1.after args s (.returned v) u = true ∧ limb_1_2.after args s (.returned v) u = true ∧ True) → ReturnedEndW s (.returned v) u (Jvm.fieldLocs frame_1_writes args s ++ Jvm.arrayLocs frame_1_arrays args s ++ Jvm.staticLocs frame_1_statics s) 24 2176 → Post tb e args s (.returned v) u) :
    ArmFor flags0 classFile x code maxLocals ret World_1 tables_1 room_1 Calls_1 rest_1 Pre_1 Post := by
  intro l hfl _ _ p e ha hc hk s m args below hf hA hF happ hP
  obtain ⟨hcalls, hrest, hpre⟩ := hP
  obtain ⟨-, -, -, hnamed, -, -, -, hat⟩ := (Spec.applies_iff hf).mp happ
  obtain ⟨hg, hn⟩ := and_e (Cond.before_iff.mp (show (Jvm.Cond.and given_1 narrow_1).before args s = true from hpre))
  obtain ⟨u1a, u1b⟩ := and_e hg
  obtain ⟨u2a, u2b⟩ := and_e u1b
  obtain ⟨u3a, u3b⟩ := and_e u2b
  obtain ⟨u4a, u4b⟩ := and_e u3b
  obtain ⟨u5a, u5b⟩ := and_e u4b
  obtain ⟨v0, v1, v2, v3, v4, rfl⟩ : ∃ v0 v1 v2 v3 v4 : Value, args = #[v0, v1, v2, v3, v4] := by
    have hs : args.size = 5 := by simpa [Cond.value, given_1] using u1a
    obtain ⟨L⟩ := args
    match L, hs with
    | [v0, v1, v2, v3, v4], _ => exact ⟨v0, v1, v2, v3, v4, rfl⟩
  have hw := fun d (hd : d ∈ tables_1) => atoms_spec (ws := Jvm.Cond.code x code maxLocals ret :: tables_1) hat d (List.mem_cons_of_mem _ hd)
  have hfit : Fit s := fun {y c} hc i hi => by
    obtain ⟨ha, rfl⟩ := Array.getElem?_eq_some_iff.mp hc
    have q := List.all_eq_true.mp ((Array.all_eq_true_iff_forall_mem.mp hF) _ (Array.getElem_mem ha)) i (List.mem_range.mpr hi)
    simpa [Array.getElem?_eq_getElem hi] using q
  obtain ⟨hsets, hown0⟩ := atoms_of _ (rest_1_c_eq ▸ (show rest_1_c.before _ s = true from hrest))
  have hr0 := Cond.before_iff.mp hown0
  obtain ⟨i0, ei0⟩ := is_v u2a
  obtain rfl : v0 = (.int i0) := Option.some.inj ei0
  obtain ⟨i1, ei1⟩ := is_v u3a
  obtain rfl : v1 = (.int i1) := Option.some.inj ei1
  obtain ⟨i2, ei2⟩ := is_v u4a
  obtain rfl : v2 = (.int i2) := Option.some.inj ei2
  obtain ⟨i3, ei3⟩ := is_v u5a
  obtain rfl : v3 = (.int i3) := Option.some.inj ei3
  obtain ⟨i4, ei4⟩ := is_v u5b
  obtain rfl : v4 = (.int i4) := Option.some.inj ei4
  obtain ⟨u6a, u6b⟩ := and_e hn
  obtain ⟨u7a, u7b⟩ := and_e u6b
  obtain ⟨u8a, u8b⟩ := and_e u7b
  obtain ⟨u9a, u9b⟩ := and_e u8b
  obtain ⟨u10a, u10b⟩ := and_e u9b
  obtain ⟨u11a, u11b⟩ := and_e u10b
  obtain ⟨cz, evc⟩ := is_v (Cond.before_iff.mp (hsets _ (List.mem_of_getElem? (i := 1) rfl)))
  have SC := Sta.start evc (Or.inl (hsets _ (List.mem_of_getElem? (i := 0) rfl)))
  have hcw : Jvm.Lit.compactW.before _ s = true := (hsets _ (List.mem_of_getElem? (i := 2) rfl))
  have hcz : ¬ cz = (0 : Int32) := own_nz evc (Cond.before_iff.mp (hsets _ (List.mem_of_getElem? (i := 2) rfl)))
  obtain ⟨fm, evf, hfm⟩ := isR_v (Cond.before_iff.mp (hsets _ (List.mem_of_getElem? (i := 8) rfl)))
  have SF := Sta.start evf (Or.inl (hsets _ (List.mem_of_getElem? (i := 7) rfl)))
  obtain ⟨hv_, evh⟩ := arr_v u6a
  have SV := Sta.start evh (Or.inr ⟨(hw _ (List.mem_of_getElem? (i := 31) rfl)), (hw _ (List.mem_of_getElem? (i := 85) rfl))⟩)
  obtain ⟨clV, AV⟩ := Arr.start evh u6a
  have HV := own_hv0 hfit (fun _ => evh) AV u7a u8a u9a u10a u11a u11b
  have CH0 : CHv s consts_1 s.vm s.heap := CHv.start (own_EW hw) (fun q hq => hcalls.1 q hq) hcw (hw _ (List.mem_of_getElem? (i := 22) rfl)) (hw _ (List.mem_of_getElem? (i := 8) rfl))
  obtain ⟨n, o, h1, h2, h3, _, L, rfl, ⟨rfl, N⟩, -, hq⟩ := rm_0 l s _ hw tables_1 i0 i1 i2 i3 i4 cz fm hv_ clV s.heap s.heap.size (Old.start s) SC hcz SF hfm SV HV p e ha hc hk s m _ below hf ((Spec.applies_iff_loose hf).mp happ).1 ⟨rfl, State.Warmed39.refl s, rfl, CH0, fun _ q => nomatch q⟩ trivial
  refine ⟨n, _, h1, h2, h3, hpost _ _ _ _ _ _ ⟨Cond.after_iff.mpr rfl, Cond.after_iff.mpr (eq_i res_at (Term.int_eval (1)) rfl), trivial⟩ ⟨hq.1, hq.2.1, hq.2.2.1, (hq.2.2.2.sift fun y hy => Or.inr (N y hy)).mono (by decide) (by decide)⟩⟩
theorem main_1_1 : Claimed_1_1 := comes_1 fun _ _ _ _ _ _ h hF => ⟨h.1, hF⟩
theorem main_1_2 : Claimed_1_2 := comes_1 fun _ _ _ _ _ _ h hF => ⟨h.2.1, hF⟩
end Jvm.Pilot.@@N@@
namespace Jvm.Pilot.@@N@@
open Jvm Jvm.ClassFile Sem Op Lib Jvm.Free Jvm.Stand Jvm.Pilot.@@N@@.Jvm.D
/-! MADE BY PROGRAM (witnessworld.py) out of the Statement's table words and the real class files: 20 classes; the members and pool entries that the words name. The judged class is class 1, her method 1. -/
namespace start1
open Jvm.ClassFile
def u (s : String) : CpInfo := .utf8 (stringToUtf16 s)
/-- a pool by its gaps: so many unusable entries, then the entry; so many at the end -/
def gap : Nat → List CpInfo → List CpInfo
  | 0, r => r
  | n + 1, r => .unusable :: gap n r
def poolList (es : List (Nat × CpInfo)) (last : Nat) : List CpInfo := es.foldr (fun e r => gap e.1 (e.2 :: r)) (gap last [])
def pool (es : List (Nat × CpInfo)) (last : Nat) : Array CpInfo := ⟨poolList es last⟩
def fileOf (pool : Array CpInfo) (this : Nat) (attrs : Array Attribute := #[]) (ms : Array MethodInfo := #[]) (fl : Nat := 33) (sup : Nat := 0) (ifs : Array Nat := #[]) (fds : Array FieldInfo := #[]) : ClassFile where
  minorVersion := 0
  majorVersion := 65
  constantPool := pool
  accessFlags := fl
  thisClass := this
  superClass := sup
  interfaces := ifs
  fields := fds
  methods := ms
  attributes := attrs
def plain (name : String) (sup : Option ClassId) : Class where
  name := name
  kind := .ordinary
  loader := none
  accessFlags := 33
  super := sup
  interfaces := #[]
  cf := none
  fields := #[]
  methods := #[]
  instanceTypes := #[]
  staticTypes := #[]
  resolved := #[]
  callSites := []
  init := .initialized
  statics := none
  mirror := none

def pool0 : Array CpInfo := pool [(5, u "<init>"), (0, u "()V"), (1, .class_ 10), (1, u "java/lang/Object")] 113

def k0c0 : Code := { maxStack := 0, maxLocals := 1, code := object_method_1_code, exceptionTable := #[], attributes := #[] }
def k0m0 : Method := { name := "<init>", desc := "()V", sig := { parameters := [], returnType := none }, accessFlags := 1, code := some k0c0 }
/-- java/lang/Object -/
def k0 : Class := { plain "java/lang/Object" none with
  accessFlags := 33
  interfaces := #[]
  cf := some (fileOf pool0 8 #[] #[{ accessFlags := 1, nameIndex := 5, descriptorIndex := 6, attributes := #[] }] 33 0 #[] #[])
  fields := #[]
  methods := #[k0m0]
  instanceTypes := #[]
  staticTypes := #[]
  resolved := Array.replicate 124 none
  statics := none }

def pool1 : Array CpInfo := pool [(2, .class_ 4), (1, u "java/lang/Object"), (0, u "<init>"), (0, u "()V"), (0, .methodref 8 9), (0, .class_ 10), (0, .nameAndType 11 12), (0, u "com/example/vouchsafe/vouchsafe/DigestsReadHexPinLaw"), (0, u "draw"), (0, u "(I)C"), (0, .methodref 8 14), (0, .nameAndType 15 16), (0, u "text"), (0, u "(ICCCC)Ljava/lang/String;"), (0, .methodref 18 19), (0, .class_ 20), (0, .nameAndType 21 22), (0, u "com/example/vouchsafe/vouchsafe/Digests"), (0, u "readHex"), (0, u "(Ljava/lang/String;I)[B"), (0, .methodref 8 24), (0, .nameAndType 25 26), (0, u "val"), (0, u "(C)I"), (0, .string 28), (0, u "0123456789abcdef"), (0, .methodref 30 31), (0, .class_ 32), (0, .nameAndType 33 12), (0, u "java/lang/String"), (0, u "charAt"), (0, .methodref 30 35), (0, .nameAndType 5 36), (0, u "([C)V"), (2, u "law"), (0, u "(IIIII)Z")] 5

def k1m0 : Method := { name := "<init>", desc := "()V", sig := { parameters := [], returnType := none }, accessFlags := 2, code := none }
def k1c1 : Code := { maxStack := 5, maxLocals := 19, code := code, exceptionTable := #[], attributes := #[] }
def k1m1 : Method := { name := "law", desc := "(IIIII)Z", sig := { parameters := [.int, .int, .int, .int, .int], returnType := some .boolean }, accessFlags := 9, code := some k1c1 }
def k1c2 : Code := { maxStack := 3, maxLocals := 1, code := method_3_code, exceptionTable := #[], attributes := #[] }
def k1m2 : Method := { name := "draw", desc := "(I)C", sig := { parameters := [.int], returnType := some .char }, accessFlags := 10, code := some k1c2 }
def k1c3 : Code := { maxStack := 2, maxLocals := 1, code := method_4_code, exceptionTable := #[], attributes := #[] }
def k1m3 : Method := { name := "val", desc := "(C)I", sig := { parameters := [.char], returnType := some .int }, accessFlags := 10, code := some k1c3 }
def k1c4 : Code := { maxStack := 6, maxLocals := 5, code := method_5_code, exceptionTable := #[], attributes := #[] }
def k1m4 : Method := { name := "text", desc := "(ICCCC)Ljava/lang/String;", sig := { parameters := [.int, .char, .char, .char, .char], returnType := some (.object "java/lang/String") }, accessFlags := 10, code := some k1c4 }
/-- com/example/vouchsafe/vouchsafe/DigestsReadHexPinLaw -/
def k1 : Class := { plain "com/example/vouchsafe/vouchsafe/DigestsReadHexPinLaw" (some 0) with
  accessFlags := 49
  interfaces := #[]
  cf := some (fileOf pool1 8 #[] #[{ accessFlags := 2, nameIndex := 5, descriptorIndex := 6, attributes := #[] }, { accessFlags := 9, nameIndex := 39, descriptorIndex := 40, attributes := #[] }, { accessFlags := 10, nameIndex := 11, descriptorIndex := 12, attributes := #[] }, { accessFlags := 10, nameIndex := 25, descriptorIndex := 26, attributes := #[] }, { accessFlags := 10, nameIndex := 15, descriptorIndex := 16, attributes := #[] }] 49 2 #[] #[])
  fields := #[]
  methods := #[k1m0, k1m1, k1m2, k1m3, k1m4]
  instanceTypes := #[]
  staticTypes := #[]
  resolved := Array.replicate 46 none
  statics := none }

def pool2 : Array CpInfo := pool [(1, .class_ 2), (0, u "java/io/Serializable"), (0, .class_ 4), (0, u "java/lang/Object")] 2

/-- java/io/Serializable -/
def k2 : Class := { plain "java/io/Serializable" (some 0) with
  accessFlags := 1537
  interfaces := #[]
  cf := some (fileOf pool2 1 #[] #[] 1537 3 #[] #[])
  fields := #[]
  methods := #[]
  instanceTypes := #[]
  staticTypes := #[]
  resolved := Array.replicate 7 none
  statics := none }

def pool3 : Array CpInfo := pool [(1, .class_ 2), (0, u "java/lang/Comparable"), (0, .class_ 4), (0, u "java/lang/Object")] 7

/-- java/lang/Comparable -/
def k3 : Class := { plain "java/lang/Comparable" (some 0) with
  accessFlags := 1537
  interfaces := #[]
  cf := some (fileOf pool3 1 #[] #[] 1537 3 #[] #[])
  fields := #[]
  methods := #[]
  instanceTypes := #[]
  staticTypes := #[]
  resolved := Array.replicate 12 none
  statics := none }

def pool4 : Array CpInfo := pool [(2, .class_ 4), (1, u "java/lang/CharSequence"), (42, .class_ 48), (0, u "java/lang/CharSequence$1CodePointIterator"), (10, .class_ 60), (0, u "java/lang/CharSequence$1CharIterator"), (5, .class_ 67), (0, u "java/lang/Object")] 63

/-- java/lang/CharSequence -/
def k4 : Class := { plain "java/lang/CharSequence" (some 0) with
  accessFlags := 1537
  interfaces := #[]
  cf := some (fileOf pool4 2 #[.nestMembers #[47, 59]] #[] 1537 66 #[] #[])
  fields := #[]
  methods := #[]
  instanceTypes := #[]
  staticTypes := #[]
  resolved := Array.replicate 131 none
  statics := none }

def pool5 : Array CpInfo := pool [(1, .class_ 2), (0, u "java/lang/constant/Constable"), (0, .class_ 4), (0, u "java/lang/Object")] 6

/-- java/lang/constant/Constable -/
def k5 : Class := { plain "java/lang/constant/Constable" (some 0) with
  accessFlags := 1537
  interfaces := #[]
  cf := some (fileOf pool5 1 #[] #[] 1537 3 #[] #[])
  fields := #[]
  methods := #[]
  instanceTypes := #[]
  staticTypes := #[]
  resolved := Array.replicate 11 none
  statics := none }

def pool6 : Array CpInfo := pool [(1, .class_ 2), (0, u "java/lang/constant/ConstantDesc"), (0, .class_ 4), (0, u "java/lang/Object")] 32

/-- java/lang/constant/ConstantDesc -/
def k6 : Class := { plain "java/lang/constant/ConstantDesc" (some 0) with
  accessFlags := 1537
  interfaces := #[]
  cf := some (fileOf pool6 1 #[] #[] 1537 3 #[] #[])
  fields := #[]
  methods := #[]
  instanceTypes := #[]
  staticTypes := #[]
  resolved := Array.replicate 37 none
  statics := none }

def pool7 : Array CpInfo := pool [(1, .methodref 2 3), (0, .class_ 4), (0, .nameAndType 5 6), (0, u "java/lang/Object"), (0, u "<init>"), (0, u "()V"), (0, .string 8), (0, u ""), (0, .fieldref 10 11), (0, .class_ 12), (0, .nameAndType 13 14), (0, u "java/lang/String"), (0, u "value"), (0, u "[B"), (0, .fieldref 10 16), (0, .nameAndType 17 18), (0, u "coder"), (0, u "B"), (2, u "hash"), (0, u "I"), (2, u "hashIsZero"), (0, u "Z"), (0, .methodref 10 28), (0, .nameAndType 5 29), (0, u "([CIILjava/lang/Void;)V"), (8, .fieldref 10 39), (0, .nameAndType 40 26), (0, u "COMPACT_STRINGS"), (1, .class_ 44), (1, u "java/lang/StringUTF16"), (0, u "compress"), (1, .methodref 42 48), (0, .nameAndType 49 50), (0, u "coderFromArrayLen"), (0, u "([BI)B"), (56, .class_ 109), (1, u "java/lang/StringLatin1"), (32, u "()Z"), (34, .methodref 42 178), (0, .nameAndType 45 179), (0, u "([CII)[B"), (154, u "()I"), (0, .methodref 10 336), (0, .nameAndType 17 337), (0, u "()B"), (25, u "([BI)C"), (27, u "(II)V"), (35, u "(I)C"), (64, .methodref 10 493), (0, .nameAndType 494 142), (0, u "isLatin1"), (0, .methodref 107 496), (0, .nameAndType 497 363), (0, u "charAt"), (3, u "checkIndex"), (5, u "length"), (67, .class_ 576), (0, u "java/lang/CharSequence"), (22, u "CASE_INSENSITIVE_ORDER"), (0, u "Ljava/util/Comparator;"), (409, u "([C)V"), (42, .fieldref 1054 1055), (0, .class_ 1056), (0, .nameAndType 1057 1058), (0, u "jdk/internal/util/Preconditions"), (0, u "SIOOBE_FORMATTER"), (0, u "Ljava/util/function/BiFunction;"), (0, .methodref 1054 1060), (0, .nameAndType 501 1061), (0, u "(IILjava/util/function/BiFunction;)I"), (39, u "serialPersistentFields"), (0, u "[Ljava/io/ObjectStreamField;"), (0, .class_ 1104), (0, u "java/lang/String$CaseInsensitiveComparator"), (1, .class_ 1107), (0, u "java/io/Serializable"), (0, .class_ 1109), (0, u "java/lang/Comparable"), (0, .class_ 1111), (0, u "java/lang/constant/Constable"), (0, .class_ 1113), (0, u "java/lang/constant/ConstantDesc"), (2, u "serialVersionUID"), (0, u "J"), (3, u "REPL"), (0, u "C"), (2, u "LATIN1"), (1, u "UTF16")] 323

def k7m0 : Method := { name := "<init>", desc := "()V", sig := { parameters := [], returnType := none }, accessFlags := 1, code := none }
def k7c1 : Code := { maxStack := 5, maxLocals := 2, code := jdk_42_method_3_code, exceptionTable := #[], attributes := #[] }
def k7m1 : Method := { name := "<init>", desc := "([C)V", sig := { parameters := [(.array .char)], returnType := none }, accessFlags := 1, code := some k7c1 }
def k7c2 : Code := { maxStack := 2, maxLocals := 1, code := jdk_42_method_54_code, exceptionTable := #[], attributes := #[] }
def k7m2 : Method := { name := "length", desc := "()I", sig := { parameters := [], returnType := some .int }, accessFlags := 1, code := some k7c2 }
def k7c3 : Code := { maxStack := 2, maxLocals := 2, code := jdk_42_method_56_code, exceptionTable := #[], attributes := #[] }
def k7m3 : Method := { name := "charAt", desc := "(I)C", sig := { parameters := [.int], returnType := some .char }, accessFlags := 1, code := some k7c3 }
def k7c4 : Code := { maxStack := 4, maxLocals := 6, code := jdk_42_method_149_code, exceptionTable := #[], attributes := #[] }
def k7m4 : Method := { name := "<init>", desc := "([CIILjava/lang/Void;)V", sig := { parameters := [(.array .char), .int, .int, (.object "java/lang/Void")], returnType := none }, accessFlags := 2, code := some k7c4 }
def k7c5 : Code := { maxStack := 1, maxLocals := 1, code := jdk_42_method_152_code, exceptionTable := #[], attributes := #[] }
def k7m5 : Method := { name := "coder", desc := "()B", sig := { parameters := [], returnType := some .byte }, accessFlags := 0, code := some k7c5 }
def k7c6 : Code := { maxStack := 1, maxLocals := 1, code := jdk_42_method_154_code, exceptionTable := #[], attributes := #[] }
def k7m6 : Method := { name := "isLatin1", desc := "()Z", sig := { parameters := [], returnType := some .boolean }, accessFlags := 0, code := some k7c6 }
def k7c7 : Code := { maxStack := 3, maxLocals := 2, code := jdk_42_method_155_code, exceptionTable := #[], attributes := #[] }
def k7m7 : Method := { name := "checkIndex", desc := "(II)V", sig := { parameters := [.int, .int], returnType := none }, accessFlags := 8, code := some k7c7 }
/-- java/lang/String -/
def k7 : Class := { plain "java/lang/String" (some 0) with
  accessFlags := 49
  interfaces := #[2, 3, 4, 5, 6]
  cf := some (fileOf pool7 10 #[.nestMembers #[1103]] #[{ accessFlags := 1, nameIndex := 5, descriptorIndex := 6, attributes := #[] }, { accessFlags := 1, nameIndex := 5, descriptorIndex := 1010, attributes := #[] }, { accessFlags := 1, nameIndex := 507, descriptorIndex := 334, attributes := #[] }, { accessFlags := 1, nameIndex := 497, descriptorIndex := 427, attributes := #[] }, { accessFlags := 2, nameIndex := 5, descriptorIndex := 29, attributes := #[] }, { accessFlags := 0, nameIndex := 17, descriptorIndex := 337, attributes := #[] }, { accessFlags := 0, nameIndex := 494, descriptorIndex := 142, attributes := #[] }, { accessFlags := 8, nameIndex := 501, descriptorIndex := 391, attributes := #[] }] 49 2 #[1106, 1108, 575, 1110, 1112] #[{ accessFlags := 18, nameIndex := 13, descriptorIndex := 14, attributes := #[] }, { accessFlags := 18, nameIndex := 17, descriptorIndex := 18, attributes := #[] }, { accessFlags := 2, nameIndex := 21, descriptorIndex := 22, attributes := #[] }, { accessFlags := 2, nameIndex := 25, descriptorIndex := 26, attributes := #[] }, { accessFlags := 26, nameIndex := 1116, descriptorIndex := 1117, attributes := #[] }, { accessFlags := 24, nameIndex := 40, descriptorIndex := 26, attributes := #[] }, { accessFlags := 26, nameIndex := 1101, descriptorIndex := 1102, attributes := #[] }, { accessFlags := 26, nameIndex := 1121, descriptorIndex := 1122, attributes := #[] }, { accessFlags := 25, nameIndex := 599, descriptorIndex := 600, attributes := #[] }, { accessFlags := 24, nameIndex := 1125, descriptorIndex := 18, attributes := #[] }, { accessFlags := 24, nameIndex := 1127, descriptorIndex := 18, attributes := #[] }])
  fields := #[{ name := "value", type := (.array .byte), accessFlags := 18, slot := 0, constantValue := 0 }, { name := "coder", type := .byte, accessFlags := 18, slot := 1, constantValue := 0 }, { name := "hash", type := .int, accessFlags := 2, slot := 2, constantValue := 0 }, { name := "hashIsZero", type := .boolean, accessFlags := 2, slot := 3, constantValue := 0 }, { name := "serialVersionUID", type := .long, accessFlags := 26, slot := 0, constantValue := 0 }, { name := "COMPACT_STRINGS", type := .boolean, accessFlags := 24, slot := 1, constantValue := 0 }, { name := "serialPersistentFields", type := (.array (.object "java/io/ObjectStreamField")), accessFlags := 26, slot := 2, constantValue := 0 }, { name := "REPL", type := .char, accessFlags := 26, slot := 3, constantValue := 0 }, { name := "CASE_INSENSITIVE_ORDER", type := (.object "java/util/Comparator"), accessFlags := 25, slot := 4, constantValue := 0 }, { name := "LATIN1", type := .byte, accessFlags := 24, slot := 5, constantValue := 0 }, { name := "UTF16", type := .byte, accessFlags := 24, slot := 6, constantValue := 0 }]
  methods := #[k7m0, k7m1, k7m2, k7m3, k7m4, k7m5, k7m6, k7m7]
  instanceTypes := #[(.array .byte), .byte, .int, .boolean]
  staticTypes := #[.long, .boolean, (.array (.object "java/io/ObjectStreamField")), .char, (.object "java/util/Comparator"), .byte, .byte]
  resolved := Array.replicate 1451 none
  statics := some 0 }

def pool8 : Array CpInfo := pool [(2, .class_ 4), (1, u "java/lang/Object"), (0, u "<init>"), (0, u "()V"), (18, .class_ 27), (1, u "com/example/vouchsafe/vouchsafe/Digests"), (0, u "SHA256"), (0, u "Ljava/lang/ThreadLocal;"), (17, .class_ 48), (0, u "com/example/vouchsafe/vouchsafe/Digests$HmacKey"), (13, .class_ 64), (1, u "java/lang/String"), (18, u "HEX_DIGITS"), (0, u "[B"), (0, .methodref 62 86), (0, .nameAndType 87 88), (0, u "length"), (0, u "()I"), (0, .methodref 62 90), (0, .nameAndType 91 92), (0, u "charAt"), (0, u "(I)C"), (0, .methodref 25 94), (0, .nameAndType 95 96), (0, u "hexValue"), (0, u "(C)I"), (0, .fieldref 25 98), (0, .nameAndType 99 84), (0, u "HEX_VALUES"), (27, u "readHex"), (0, u "(Ljava/lang/String;I)[B")] 25

def k8m0 : Method := { name := "<init>", desc := "()V", sig := { parameters := [], returnType := none }, accessFlags := 2, code := none }
def k8c1 : Code := { maxStack := 4, maxLocals := 7, code := prog_18_method_9_code, exceptionTable := #[], attributes := #[] }
def k8m1 : Method := { name := "readHex", desc := "(Ljava/lang/String;I)[B", sig := { parameters := [(.object "java/lang/String"), .int], returnType := some (.array .byte) }, accessFlags := 8, code := some k8c1 }
def k8c2 : Code := { maxStack := 2, maxLocals := 1, code := prog_18_method_10_code, exceptionTable := #[], attributes := #[] }
def k8m2 : Method := { name := "hexValue", desc := "(C)I", sig := { parameters := [.char], returnType := some .int }, accessFlags := 10, code := some k8c2 }
/-- com/example/vouchsafe/vouchsafe/Digests -/
def k8 : Class := { plain "com/example/vouchsafe/vouchsafe/Digests" (some 0) with
  accessFlags := 48
  interfaces := #[]
  cf := some (fileOf pool8 25 #[.nestMembers #[47]] #[{ accessFlags := 2, nameIndex := 5, descriptorIndex := 6, attributes := #[] }, { accessFlags := 8, nameIndex := 127, descriptorIndex := 128, attributes := #[] }, { accessFlags := 10, nameIndex := 95, descriptorIndex := 96, attributes := #[] }] 48 2 #[] #[{ accessFlags := 26, nameIndex := 83, descriptorIndex := 84, attributes := #[] }, { accessFlags := 26, nameIndex := 99, descriptorIndex := 84, attributes := #[] }, { accessFlags := 26, nameIndex := 28, descriptorIndex := 29, attributes := #[] }])
  fields := #[{ name := "HEX_DIGITS", type := (.array .byte), accessFlags := 26, slot := 0, constantValue := 0 }, { name := "HEX_VALUES", type := (.array .byte), accessFlags := 26, slot := 1, constantValue := 0 }, { name := "SHA256", type := (.object "java/lang/ThreadLocal"), accessFlags := 26, slot := 2, constantValue := 0 }]
  methods := #[k8m0, k8m1, k8m2]
  instanceTypes := #[]
  staticTypes := #[(.array .byte), (.array .byte), (.object "java/lang/ThreadLocal")]
  resolved := Array.replicate 154 none
  statics := some 1 }

def pool9 : Array CpInfo := pool [(6, .class_ 8), (1, u "java/lang/Object"), (0, u "<init>"), (0, u "()V"), (1, .class_ 14), (1, u "java/lang/StringUTF16"), (31, u "$assertionsDisabled"), (0, u "Z"), (13, u "HI_BYTE_SHIFT"), (0, u "I"), (2, u "LO_BYTE_SHIFT"), (49, .methodref 12 116), (0, .nameAndType 117 118), (0, u "compress"), (0, u "([CI[BII)I"), (3, u "([CII)[B"), (138, u "coderFromArrayLen"), (0, u "([BI)B"), (106, .class_ 371), (1, u "java/lang/StringUTF16$LinesSpliterator"), (58, u "MAX_LENGTH"), (196, .class_ 628), (0, u "java/lang/StringUTF16$CodePointsSpliterator"), (0, .class_ 630), (0, u "java/lang/StringUTF16$CharsSpliterator")] 4

def k9m0 : Method := { name := "<init>", desc := "()V", sig := { parameters := [], returnType := none }, accessFlags := 0, code := none }
def k9c1 : Code := { maxStack := 2, maxLocals := 2, code := jdk_52_method_15_code, exceptionTable := #[], attributes := #[] }
def k9m1 : Method := { name := "coderFromArrayLen", desc := "([BI)B", sig := { parameters := [(.array .byte), .int], returnType := some .byte }, accessFlags := 8, code := some k9c1 }
def k9c2 : Code := { maxStack := 5, maxLocals := 6, code := jdk_52_method_16_code, exceptionTable := #[], attributes := #[] }
def k9m2 : Method := { name := "compress", desc := "([CII)[B", sig := { parameters := [(.array .char), .int, .int], returnType := some (.array .byte) }, accessFlags := 9, code := some k9c2 }
def k9c3 : Code := { maxStack := 3, maxLocals := 7, code := jdk_52_method_21_code, exceptionTable := #[], attributes := #[] }
def k9m3 : Method := { name := "compress", desc := "([CI[BII)I", sig := { parameters := [(.array .char), .int, (.array .byte), .int, .int], returnType := some .int }, accessFlags := 9, code := some k9c3 }
/-- java/lang/StringUTF16 -/
def k9 : Class := { plain "java/lang/StringUTF16" (some 0) with
  accessFlags := 48
  interfaces := #[]
  cf := some (fileOf pool9 12 #[.nestMembers #[627, 629, 369]] #[{ accessFlags := 0, nameIndex := 9, descriptorIndex := 10, attributes := #[] }, { accessFlags := 8, nameIndex := 261, descriptorIndex := 262, attributes := #[] }, { accessFlags := 9, nameIndex := 117, descriptorIndex := 122, attributes := #[] }, { accessFlags := 9, nameIndex := 117, descriptorIndex := 118, attributes := #[] }] 48 6 #[] #[{ accessFlags := 26, nameIndex := 61, descriptorIndex := 62, attributes := #[] }, { accessFlags := 26, nameIndex := 65, descriptorIndex := 62, attributes := #[] }, { accessFlags := 24, nameIndex := 430, descriptorIndex := 62, attributes := #[] }, { accessFlags := 4120, nameIndex := 46, descriptorIndex := 47, attributes := #[] }])
  fields := #[{ name := "HI_BYTE_SHIFT", type := .int, accessFlags := 26, slot := 0, constantValue := 0 }, { name := "LO_BYTE_SHIFT", type := .int, accessFlags := 26, slot := 1, constantValue := 0 }, { name := "MAX_LENGTH", type := .int, accessFlags := 24, slot := 2, constantValue := 0 }, { name := "$assertionsDisabled", type := .boolean, accessFlags := 4120, slot := 3, constantValue := 0 }]
  methods := #[k9m0, k9m1, k9m2, k9m3]
  instanceTypes := #[]
  staticTypes := #[.int, .int, .int, .boolean]
  resolved := Array.replicate 635 none
  statics := none }

def pool10 : Array CpInfo := pool [(1, .class_ 2), (0, u "java/lang/String"), (1, .class_ 6), (1, u "java/lang/Object"), (0, u "<init>"), (0, u "()V"), (0, .methodref 1 10), (0, .nameAndType 11 12), (0, u "checkIndex"), (0, u "(II)V"), (1, .class_ 16), (1, u "java/lang/StringLatin1"), (36, u "([BI)C"), (67, u "$assertionsDisabled"), (0, u "Z"), (98, .class_ 223), (1, u "java/lang/StringLatin1$LinesSpliterator"), (28, u "charAt"), (137, .class_ 391), (0, u "java/lang/StringLatin1$CharsSpliterator")] 3

def k10m0 : Method := { name := "<init>", desc := "()V", sig := { parameters := [], returnType := none }, accessFlags := 0, code := none }
def k10c1 : Code := { maxStack := 2, maxLocals := 2, code := jdk_43_method_2_code, exceptionTable := #[], attributes := #[] }
def k10m1 : Method := { name := "charAt", desc := "([BI)C", sig := { parameters := [(.array .byte), .int], returnType := some .char }, accessFlags := 9, code := some k10c1 }
/-- java/lang/StringLatin1 -/
def k10 : Class := { plain "java/lang/StringLatin1" (some 0) with
  accessFlags := 48
  interfaces := #[]
  cf := some (fileOf pool10 14 #[.nestMembers #[390, 221]] #[{ accessFlags := 0, nameIndex := 7, descriptorIndex := 8, attributes := #[] }, { accessFlags := 9, nameIndex := 252, descriptorIndex := 53, attributes := #[] }] 48 4 #[] #[{ accessFlags := 4120, nameIndex := 121, descriptorIndex := 122, attributes := #[] }])
  fields := #[{ name := "$assertionsDisabled", type := .boolean, accessFlags := 4120, slot := 0, constantValue := 0 }]
  methods := #[k10m0, k10m1]
  instanceTypes := #[]
  staticTypes := #[.boolean]
  resolved := Array.replicate 395 none
  statics := none }

def pool11 : Array CpInfo := pool [(2, .class_ 4), (1, u "java/lang/Object"), (0, u "<init>"), (0, u "()V"), (17, .class_ 26), (1, u "jdk/internal/util/Preconditions"), (6, u "checkIndex"), (21, .class_ 56), (0, u "jdk/internal/util/Preconditions$4"), (57, .class_ 115), (0, u "jdk/internal/util/Preconditions$1"), (7, u "SIOOBE_FORMATTER"), (0, u "Ljava/util/function/BiFunction;"), (0, .class_ 126), (0, u "jdk/internal/util/Preconditions$2"), (3, u "AIOOBE_FORMATTER"), (0, .class_ 132), (0, u "jdk/internal/util/Preconditions$3"), (3, u "IOOBE_FORMATTER"), (41, u "(IILjava/util/function/BiFunction;)I")] 15

def k11m0 : Method := { name := "<init>", desc := "()V", sig := { parameters := [], returnType := none }, accessFlags := 1, code := none }
def k11c1 : Code := { maxStack := 3, maxLocals := 3, code := jdk_41_method_11_code, exceptionTable := #[], attributes := #[] }
def k11m1 : Method := { name := "checkIndex", desc := "(IILjava/util/function/BiFunction;)I", sig := { parameters := [.int, .int, (.object "java/util/function/BiFunction")], returnType := some .int }, accessFlags := 9, code := some k11c1 }
/-- jdk/internal/util/Preconditions -/
def k11 : Class := { plain "jdk/internal/util/Preconditions" (some 0) with
  accessFlags := 33
  interfaces := #[]
  cf := some (fileOf pool11 24 #[.nestMembers #[55, 131, 125, 114]] #[{ accessFlags := 1, nameIndex := 5, descriptorIndex := 6, attributes := #[] }, { accessFlags := 9, nameIndex := 33, descriptorIndex := 178, attributes := #[] }] 33 2 #[] #[{ accessFlags := 25, nameIndex := 123, descriptorIndex := 124, attributes := #[] }, { accessFlags := 25, nameIndex := 130, descriptorIndex := 124, attributes := #[] }, { accessFlags := 25, nameIndex := 136, descriptorIndex := 124, attributes := #[] }])
  fields := #[{ name := "SIOOBE_FORMATTER", type := (.object "java/util/function/BiFunction"), accessFlags := 25, slot := 0, constantValue := 0 }, { name := "AIOOBE_FORMATTER", type := (.object "java/util/function/BiFunction"), accessFlags := 25, slot := 1, constantValue := 0 }, { name := "IOOBE_FORMATTER", type := (.object "java/util/function/BiFunction"), accessFlags := 25, slot := 2, constantValue := 0 }]
  methods := #[k11m0, k11m1]
  instanceTypes := #[]
  staticTypes := #[(.object "java/util/function/BiFunction"), (.object "java/util/function/BiFunction"), (.object "java/util/function/BiFunction")]
  resolved := Array.replicate 194 none
  statics := some 2 }

def pool12 : Array CpInfo := pool [(9, u "<init>"), (6, .class_ 18), (1, u "java/lang/Object"), (0, u "()V"), (1, .class_ 23), (1, u "jdk/internal/util/ArraysSupport"), (0, u "LOG2_ARRAY_LONG_INDEX_SCALE"), (0, u "I"), (2, u "U"), (0, u "Ljdk/internal/misc/Unsafe;"), (8, u "BIG_ENDIAN"), (0, u "Z"), (8, u "LOG2_BYTE_BIT_SIZE"), (4, u "LOG2_ARRAY_INT_INDEX_SCALE"), (54, u "JLA"), (0, u "Ljdk/internal/access/JavaLangAccess;"), (11, u "LOG2_ARRAY_BOOLEAN_INDEX_SCALE"), (9, u "LOG2_ARRAY_BYTE_INDEX_SCALE"), (5, u "LOG2_ARRAY_CHAR_INDEX_SCALE"), (5, u "LOG2_ARRAY_SHORT_INDEX_SCALE"), (18, u "LOG2_ARRAY_FLOAT_INDEX_SCALE"), (24, u "LOG2_ARRAY_DOUBLE_INDEX_SCALE"), (89, u "T_BOOLEAN"), (2, u "T_CHAR"), (1, u "T_FLOAT"), (1, u "T_DOUBLE"), (1, u "T_BYTE"), (1, u "T_SHORT"), (1, u "T_INT"), (1, u "T_LONG"), (1, u "SOFT_MAX_ARRAY_LENGTH")] 83

def k12m0 : Method := { name := "<init>", desc := "()V", sig := { parameters := [], returnType := none }, accessFlags := 2, code := none }
/-- jdk/internal/util/ArraysSupport -/
def k12 : Class := { plain "jdk/internal/util/ArraysSupport" (some 0) with
  accessFlags := 33
  interfaces := #[]
  cf := some (fileOf pool12 21 #[] #[{ accessFlags := 2, nameIndex := 9, descriptorIndex := 19, attributes := #[] }] 33 16 #[] #[{ accessFlags := 24, nameIndex := 28, descriptorIndex := 29, attributes := #[] }, { accessFlags := 26, nameIndex := 38, descriptorIndex := 39, attributes := #[] }, { accessFlags := 25, nameIndex := 121, descriptorIndex := 25, attributes := #[] }, { accessFlags := 25, nameIndex := 131, descriptorIndex := 25, attributes := #[] }, { accessFlags := 25, nameIndex := 137, descriptorIndex := 25, attributes := #[] }, { accessFlags := 25, nameIndex := 143, descriptorIndex := 25, attributes := #[] }, { accessFlags := 25, nameIndex := 53, descriptorIndex := 25, attributes := #[] }, { accessFlags := 25, nameIndex := 24, descriptorIndex := 25, attributes := #[] }, { accessFlags := 25, nameIndex := 162, descriptorIndex := 25, attributes := #[] }, { accessFlags := 25, nameIndex := 187, descriptorIndex := 25, attributes := #[] }, { accessFlags := 26, nameIndex := 48, descriptorIndex := 25, attributes := #[] }, { accessFlags := 25, nameIndex := 277, descriptorIndex := 25, attributes := #[] }, { accessFlags := 25, nameIndex := 280, descriptorIndex := 25, attributes := #[] }, { accessFlags := 25, nameIndex := 282, descriptorIndex := 25, attributes := #[] }, { accessFlags := 25, nameIndex := 284, descriptorIndex := 25, attributes := #[] }, { accessFlags := 25, nameIndex := 286, descriptorIndex := 25, attributes := #[] }, { accessFlags := 25, nameIndex := 288, descriptorIndex := 25, attributes := #[] }, { accessFlags := 25, nameIndex := 290, descriptorIndex := 25, attributes := #[] }, { accessFlags := 25, nameIndex := 292, descriptorIndex := 25, attributes := #[] }, { accessFlags := 26, nameIndex := 108, descriptorIndex := 109, attributes := #[] }, { accessFlags := 25, nameIndex := 294, descriptorIndex := 25, attributes := #[] }])
  fields := #[{ name := "U", type := (.object "jdk/internal/misc/Unsafe"), accessFlags := 24, slot := 0, constantValue := 0 }, { name := "BIG_ENDIAN", type := .boolean, accessFlags := 26, slot := 1, constantValue := 0 }, { name := "LOG2_ARRAY_BOOLEAN_INDEX_SCALE", type := .int, accessFlags := 25, slot := 2, constantValue := 0 }, { name := "LOG2_ARRAY_BYTE_INDEX_SCALE", type := .int, accessFlags := 25, slot := 3, constantValue := 0 }, { name := "LOG2_ARRAY_CHAR_INDEX_SCALE", type := .int, accessFlags := 25, slot := 4, constantValue := 0 }, { name := "LOG2_ARRAY_SHORT_INDEX_SCALE", type := .int, accessFlags := 25, slot := 5, constantValue := 0 }, { name := "LOG2_ARRAY_INT_INDEX_SCALE", type := .int, accessFlags := 25, slot := 6, constantValue := 0 }, { name := "LOG2_ARRAY_LONG_INDEX_SCALE", type := .int, accessFlags := 25, slot := 7, constantValue := 0 }, { name := "LOG2_ARRAY_FLOAT_INDEX_SCALE", type := .int, accessFlags := 25, slot := 8, constantValue := 0 }, { name := "LOG2_ARRAY_DOUBLE_INDEX_SCALE", type := .int, accessFlags := 25, slot := 9, constantValue := 0 }, { name := "LOG2_BYTE_BIT_SIZE", type := .int, accessFlags := 26, slot := 10, constantValue := 0 }, { name := "T_BOOLEAN", type := .int, accessFlags := 25, slot := 11, constantValue := 0 }, { name := "T_CHAR", type := .int, accessFlags := 25, slot := 12, constantValue := 0 }, { name := "T_FLOAT", type := .int, accessFlags := 25, slot := 13, constantValue := 0 }, { name := "T_DOUBLE", type := .int, accessFlags := 25, slot := 14, constantValue := 0 }, { name := "T_BYTE", type := .int, accessFlags := 25, slot := 15, constantValue := 0 }, { name := "T_SHORT", type := .int, accessFlags := 25, slot := 16, constantValue := 0 }, { name := "T_INT", type := .int, accessFlags := 25, slot := 17, constantValue := 0 }, { name := "T_LONG", type := .int, accessFlags := 25, slot := 18, constantValue := 0 }, { name := "JLA", type := (.object "jdk/internal/access/JavaLangAccess"), accessFlags := 26, slot := 19, constantValue := 0 }, { name := "SOFT_MAX_ARRAY_LENGTH", type := .int, accessFlags := 25, slot := 20, constantValue := 0 }]
  methods := #[k12m0]
  instanceTypes := #[]
  staticTypes := #[(.object "jdk/internal/misc/Unsafe"), .boolean, .int, .int, .int, .int, .int, .int, .int, .int, .int, .int, .int, .int, .int, .int, .int, .int, .int, (.object "jdk/internal/access/JavaLangAccess"), .int]
  resolved := Array.replicate 378 none
  statics := none }

def pool13 : Array CpInfo := pool [(1, u "java/lang/Cloneable"), (0, .class_ 1), (0, u "java/lang/Object"), (0, .class_ 3)] 3

/-- java/lang/Cloneable -/
def k13 : Class := { plain "java/lang/Cloneable" (some 0) with
  accessFlags := 1537
  interfaces := #[]
  cf := some (fileOf pool13 2 #[] #[] 1537 4 #[] #[])
  fields := #[]
  methods := #[]
  instanceTypes := #[]
  staticTypes := #[]
  resolved := Array.replicate 8 none
  statics := none }

/-- the primitive byte -/
def k14 : Class := { plain "byte" none with kind := .primitive 'B', accessFlags := 0x411 }
/-- [B -/
def k15 : Class := { plain "[B" (some 0) with kind := .array 14 .byte, interfaces := #[13, 2], accessFlags := 1041 }

/-- the primitive char -/
def k16 : Class := { plain "char" none with kind := .primitive 'C', accessFlags := 0x411 }
/-- [C -/
def k17 : Class := { plain "[C" (some 0) with kind := .array 16 .char, interfaces := #[13, 2], accessFlags := 1041 }

/-- the primitive int -/
def k18 : Class := { plain "int" none with kind := .primitive 'I', accessFlags := 0x411 }
/-- [I -/
def k19 : Class := { plain "[I" (some 0) with kind := .array 18 .int, interfaces := #[13, 2], accessFlags := 1041 }

def heap : Heap := #[{ cls := 7, slots := #[.long 0, .int 1, .null, .int 0, .null, .int 0, .int 0], vm := .statics 7 },
  { cls := 8, slots := #[.null, .ref 3, .null], vm := .statics 8 },
  { cls := 11, slots := #[.null, .null, .null], vm := .statics 11 },
  { cls := 15, slots := #[.int (-1), .int (-1), .int (-1), .int (-1), .int (-1), .int (-1), .int (-1), .int (-1), .int (-1), .int (-1), .int (-1), .int (-1), .int (-1), .int (-1), .int (-1), .int (-1), .int (-1), .int (-1), .int (-1), .int (-1), .int (-1), .int (-1), .int (-1), .int (-1), .int (-1), .int (-1), .int (-1), .int (-1), .int (-1), .int (-1), .int (-1), .int (-1), .int (-1), .int (-1), .int (-1), .int (-1), .int (-1), .int (-1), .int (-1), .int (-1), .int (-1), .int (-1), .int (-1), .int (-1), .int (-1), .int (-1), .int (-1), .int (-1), .int 0, .int 1, .int 2, .int 3, .int 4, .int 5, .int 6, .int 7, .int 8, .int 9, .int (-1), .int (-1), .int (-1), .int (-1), .int (-1), .int (-1), .int (-1), .int (-1), .int (-1), .int (-1), .int (-1), .int (-1), .int (-1), .int (-1), .int (-1), .int (-1), .int (-1), .int (-1), .int (-1), .int (-1), .int (-1), .int (-1), .int (-1), .int (-1), .int (-1), .int (-1), .int (-1), .int (-1), .int (-1), .int (-1), .int (-1), .int (-1), .int (-1), .int (-1), .int (-1), .int (-1), .int (-1), .int (-1), .int (-1), .int 10, .int 11, .int 12, .int 13, .int 14, .int 15, .int (-1), .int (-1), .int (-1), .int (-1), .int (-1), .int (-1), .int (-1), .int (-1), .int (-1), .int (-1), .int (-1), .int (-1), .int (-1), .int (-1), .int (-1), .int (-1), .int (-1), .int (-1), .int (-1), .int (-1), .int (-1), .int (-1), .int (-1), .int (-1), .int (-1)], vm := .none }]
def classes : Array Class := #[k0, k1, k2, k3, k4, k5, k6, k7, k8, k9, k10, k11, k12, k13, k14, k15, k16, k17, k18, k19]
def interned : List (Array UInt16 × Addr) := []
def slotsUsed : Nat := 141
def theMethod : MethodId := ⟨1, 1⟩
def args0 : Array Value := #[.int 5, .int 3, .int 7, .int 2, .int 1]
def aboutOver (below : List Frame) : State where
  vm := { classes := classes, interned := interned.toArray }
  heap := heap
  slotsUsed := slotsUsed
  threads := #[{ frames := .invoking theMethod args0 :: below }]
def below0 : List Frame := [.native { method := ⟨0, 0⟩, args := #[] }]
def about1 : State := aboutOver below0
def p0 : Program := .bare "" "" ""
def e0 : Env := launch0.env 0 0 0
theorem w_frames : about1.frames = Frame.invoking theMethod args0 :: below0 := rfl
set_option maxRecDepth 65536 in
theorem w_args : argsFit about1.vm theMethod args0 = true := by decide +kernel
set_option maxRecDepth 65536 in
theorem w_heap : heapFits about1 = true := by decide +kernel
set_option maxRecDepth 65536 in
theorem w_runnable : about1.curStatus? = some .runnable := by decide +kernel
set_option maxRecDepth 65536 in
theorem w_alone : about1.alone = true := by decide +kernel
set_option maxRecDepth 65536 in
theorem w_named : about1.methodNamed? x = some theMethod := by decide +kernel
set_option maxRecDepth 65536 in
theorem w_hears : about1.hears theMethod below0 = true := by decide +kernel
set_option maxRecDepth 65536 in
theorem w_ripe : about1.ripe theMethod args0 below0 = true := by decide +kernel
theorem w_running : about1.status = .running := rfl
set_option maxRecDepth 65536 in
theorem w_room : about1.hasRoom e0.platform room_1 = true :=
  launch0.hasRoom_least _ room_1 (by decide +kernel) (by decide +kernel) (by decide +kernel) (by decide +kernel) (by decide +kernel) (by decide +kernel)
theorem allAtoms_all (ts : List Jvm.Cond) (a : Array Jvm.Value) (st : Jvm.State) : (allAtoms ts).before a st = ts.all (fun c => c.before a st) := by
  induction ts with
  | nil => rfl
  | cons c t ih =>
    show (Jvm.Cond.and c (allAtoms t)).before a st = _
    rw [Jvm.Cond.before_and, ih, List.all_cons]
def words1 : List Jvm.Cond := Jvm.Cond.code x code maxLocals ret :: tables_1
/-- a 'code' word, met by the world's own term for the bytes: nothing is compared byte by byte -/
theorem code_word {y : MethodName} {bytes : ByteArray} {mx : Nat} {rt : Option FieldType} {a : Array Value} {s : State} {m : MethodId} {meth : Method} {c : Code} (h1 : s.methodNamed? y = some m) (h2 : s.vm.method? m = some meth) (h3 : meth.code = some c) (h4 : c.code = bytes)
    (h5 : (c.maxLocals == mx && c.exceptionTable.isEmpty && decide (c.maxStack ≤ mostOperands) && decide (meth.sig.returnType = rt) && !meth.locks && decide (parseMethodDescriptor y.desc = some meth.sig)) = true) : (Jvm.Cond.code y bytes mx rt).before a s = true := by
  simp only [Bool.and_eq_true, beq_iff_eq, Bool.not_eq_true', decide_eq_true_eq] at h5
  obtain ⟨⟨⟨⟨⟨g1, g2⟩, g3⟩, g4⟩, g5⟩, g6⟩ := h5
  simp [Cond.before, Cond.holds, Cond.value, h1, h2, h3, h4, g1, g2, g3, g4, g5, g6]
def isCode : Jvm.Cond → Bool
  | .code _ _ _ _ => true
  | _ => false
theorem all_split {L : List Jvm.Cond} {P : Jvm.Cond → Bool} (h1 : L.all (fun c => isCode c || P c) = true) (h2 : ∀ c ∈ L.filter isCode, P c = true) : L.all P = true := by
  refine List.all_eq_true.mpr fun c hc => ?_
  have h := List.all_eq_true.mp h1 c hc
  rcases Bool.eq_false_or_eq_true (isCode c) with hi | hi
  · exact h2 c (List.mem_filter.mpr ⟨hc, hi⟩)
  · simpa [hi] using h
set_option maxRecDepth 65536 in
theorem w_c0 : (Jvm.Cond.code x code maxLocals ret).before args0 about1 = true := code_word (m := ⟨1, 1⟩) (meth := k1m1) (c := k1c1) (by decide +kernel) rfl rfl rfl (by decide +kernel)
set_option maxRecDepth 65536 in
theorem w_c1 : (Jvm.Cond.code ({ cls := "com/example/vouchsafe/vouchsafe/DigestsReadHexPinLaw", name := "draw", desc := "(I)C" } : Jvm.MethodName) method_3_code (1 : Nat) (Option.some Jvm.ClassFile.FieldType.char)).before args0 about1 = true := code_word (m := ⟨1, 2⟩) (meth := k1m2) (c := k1c2) (by decide +kernel) rfl rfl rfl (by decide +kernel)
set_option maxRecDepth 65536 in
theorem w_c2 : (Jvm.Cond.code ({ cls := "com/example/vouchsafe/vouchsafe/DigestsReadHexPinLaw", name := "text", desc := "(ICCCC)Ljava/lang/String;" } : Jvm.MethodName) method_5_code (5 : Nat) (Option.some (Jvm.ClassFile.FieldType.object "java/lang/String"))).before args0 about1 = true := code_word (m := ⟨1, 4⟩) (meth := k1m4) (c := k1c4) (by decide +kernel) rfl rfl rfl (by decide +kernel)
set_option maxRecDepth 65536 in
theorem w_c3 : (Jvm.Cond.code ({ cls := "java/lang/String", name := "<init>", desc := "([C)V" } : Jvm.MethodName) jdk_42_method_3_code (2 : Nat) (Option.none : Option Jvm.ClassFile.FieldType)).before args0 about1 = true := code_word (m := ⟨7, 1⟩) (meth := k7m1) (c := k7c1) (by decide +kernel) rfl rfl rfl (by decide +kernel)
set_option maxRecDepth 65536 in
theorem w_c4 : (Jvm.Cond.code ({ cls := "java/lang/String", name := "<init>", desc := "([CIILjava/lang/Void;)V" } : Jvm.MethodName) jdk_42_method_149_code (6 : Nat) (Option.none : Option Jvm.ClassFile.FieldType)).before args0 about1 = true := code_word (m := ⟨7, 4⟩) (meth := k7m4) (c := k7c4) (by decide +kernel) rfl rfl rfl (by decide +kernel)
set_option maxRecDepth 65536 in
theorem w_c5 : (Jvm.Cond.code ({ cls := "java/lang/Object", name := "<init>", desc := "()V" } : Jvm.MethodName) object_method_1_code (1 : Nat) (Option.none : Option Jvm.ClassFile.FieldType)).before args0 about1 = true := code_word (m := ⟨0, 0⟩) (meth := k0m0) (c := k0c0) (by decide +kernel) rfl rfl rfl (by decide +kernel)
set_option maxRecDepth 65536 in
theorem w_c6 : (Jvm.Cond.code ({ cls := "com/example/vouchsafe/vouchsafe/Digests", name := "readHex", desc := "(Ljava/lang/String;I)[B" } : Jvm.MethodName) prog_18_method_9_code (7 : Nat) (Option.some (Jvm.ClassFile.FieldType.array Jvm.ClassFile.FieldType.byte))).before args0 about1 = true := code_word (m := ⟨8, 1⟩) (meth := k8m1) (c := k8c1) (by decide +kernel) rfl rfl rfl (by decide +kernel)
set_option maxRecDepth 65536 in
theorem w_c7 : (Jvm.Cond.code ({ cls := "java/lang/String", name := "length", desc := "()I" } : Jvm.MethodName) jdk_42_method_54_code (1 : Nat) (Option.some Jvm.ClassFile.FieldType.int)).before args0 about1 = true := code_word (m := ⟨7, 2⟩) (meth := k7m2) (c := k7c2) (by decide +kernel) rfl rfl rfl (by decide +kernel)
set_option maxRecDepth 65536 in
theorem w_c8 : (Jvm.Cond.code ({ cls := "java/lang/String", name := "coder", desc := "()B" } : Jvm.MethodName) jdk_42_method_152_code (1 : Nat) (Option.some Jvm.ClassFile.FieldType.byte)).before args0 about1 = true := code_word (m := ⟨7, 5⟩) (meth := k7m5) (c := k7c5) (by decide +kernel) rfl rfl rfl (by decide +kernel)
set_option maxRecDepth 65536 in
theorem w_c9 : (Jvm.Cond.code ({ cls := "com/example/vouchsafe/vouchsafe/DigestsReadHexPinLaw", name := "val", desc := "(C)I" } : Jvm.MethodName) method_4_code (1 : Nat) (Option.some Jvm.ClassFile.FieldType.int)).before args0 about1 = true := code_word (m := ⟨1, 3⟩) (meth := k1m3) (c := k1c3) (by decide +kernel) rfl rfl rfl (by decide +kernel)
set_option maxRecDepth 65536 in
theorem w_c10 : (Jvm.Cond.code ({ cls := "java/lang/StringUTF16", name := "compress", desc := "([CII)[B" } : Jvm.MethodName) jdk_52_method_16_code (6 : Nat) (Option.some (Jvm.ClassFile.FieldType.array Jvm.ClassFile.FieldType.byte))).before args0 about1 = true := code_word (m := ⟨9, 2⟩) (meth := k9m2) (c := k9c2) (by decide +kernel) rfl rfl rfl (by decide +kernel)
set_option maxRecDepth 65536 in
theorem w_c11 : (Jvm.Cond.code ({ cls := "java/lang/StringUTF16", name := "compress", desc := "([CI[BII)I" } : Jvm.MethodName) jdk_52_method_21_code (7 : Nat) (Option.some Jvm.ClassFile.FieldType.int)).before args0 about1 = true := code_word (m := ⟨9, 3⟩) (meth := k9m3) (c := k9c3) (by decide +kernel) rfl rfl rfl (by decide +kernel)
set_option maxRecDepth 65536 in
theorem w_c12 : (Jvm.Cond.code ({ cls := "java/lang/StringUTF16", name := "coderFromArrayLen", desc := "([BI)B" } : Jvm.MethodName) jdk_52_method_15_code (2 : Nat) (Option.some Jvm.ClassFile.FieldType.byte)).before args0 about1 = true := code_word (m := ⟨9, 1⟩) (meth := k9m1) (c := k9c1) (by decide +kernel) rfl rfl rfl (by decide +kernel)
set_option maxRecDepth 65536 in
theorem w_c13 : (Jvm.Cond.code ({ cls := "java/lang/String", name := "charAt", desc := "(I)C" } : Jvm.MethodName) jdk_42_method_56_code (2 : Nat) (Option.some Jvm.ClassFile.FieldType.char)).before args0 about1 = true := code_word (m := ⟨7, 3⟩) (meth := k7m3) (c := k7c3) (by decide +kernel) rfl rfl rfl (by decide +kernel)
set_option maxRecDepth 65536 in
theorem w_c14 : (Jvm.Cond.code ({ cls := "java/lang/String", name := "isLatin1", desc := "()Z" } : Jvm.MethodName) jdk_42_method_154_code (1 : Nat) (Option.some Jvm.ClassFile.FieldType.boolean)).before args0 about1 = true := code_word (m := ⟨7, 6⟩) (meth := k7m6) (c := k7c6) (by decide +kernel) rfl rfl rfl (by decide +kernel)
set_option maxRecDepth 65536 in
theorem w_c15 : (Jvm.Cond.code ({ cls := "java/lang/StringLatin1", name := "charAt", desc := "([BI)C" } : Jvm.MethodName) jdk_43_method_2_code (2 : Nat) (Option.some Jvm.ClassFile.FieldType.char)).before args0 about1 = true := code_word (m := ⟨10, 1⟩) (meth := k10m1) (c := k10c1) (by decide +kernel) rfl rfl rfl (by decide +kernel)
set_option maxRecDepth 65536 in
theorem w_c16 : (Jvm.Cond.code ({ cls := "java/lang/String", name := "checkIndex", desc := "(II)V" } : Jvm.MethodName) jdk_42_method_155_code (2 : Nat) (Option.none : Option Jvm.ClassFile.FieldType)).before args0 about1 = true := code_word (m := ⟨7, 7⟩) (meth := k7m7) (c := k7c7) (by decide +kernel) rfl rfl rfl (by decide +kernel)
set_option maxRecDepth 65536 in
theorem w_c17 : (Jvm.Cond.code ({ cls := "jdk/internal/util/Preconditions", name := "checkIndex", desc := "(IILjava/util/function/BiFunction;)I" } : Jvm.MethodName) jdk_41_method_11_code (3 : Nat) (Option.some Jvm.ClassFile.FieldType.int)).before args0 about1 = true := code_word (m := ⟨11, 1⟩) (meth := k11m1) (c := k11c1) (by decide +kernel) rfl rfl rfl (by decide +kernel)
set_option maxRecDepth 65536 in
theorem w_c18 : (Jvm.Cond.code ({ cls := "com/example/vouchsafe/vouchsafe/Digests", name := "hexValue", desc := "(C)I" } : Jvm.MethodName) prog_18_method_10_code (1 : Nat) (Option.some Jvm.ClassFile.FieldType.int)).before args0 about1 = true := code_word (m := ⟨8, 2⟩) (meth := k8m2) (c := k8c2) (by decide +kernel) rfl rfl rfl (by decide +kernel)
def codes1 : List Jvm.Cond := [Jvm.Cond.code x code maxLocals ret, Jvm.Cond.code ({ cls := "com/example/vouchsafe/vouchsafe/DigestsReadHexPinLaw", name := "draw", desc := "(I)C" } : Jvm.MethodName) method_3_code (1 : Nat) (Option.some Jvm.ClassFile.FieldType.char), Jvm.Cond.code ({ cls := "com/example/vouchsafe/vouchsafe/DigestsReadHexPinLaw", name := "text", desc := "(ICCCC)Ljava/lang/String;" } : Jvm.MethodName) method_5_code (5 : Nat) (Option.some (Jvm.ClassFile.FieldType.object "java/lang/String")), Jvm.Cond.code ({ cls := "java/lang/String", name := "<init>", desc := "([C)V" } : Jvm.MethodName) jdk_42_method_3_code (2 : Nat) (Option.none : Option Jvm.ClassFile.FieldType), Jvm.Cond.code ({ cls := "java/lang/String", name := "<init>", desc := "([CIILjava/lang/Void;)V" } : Jvm.MethodName) jdk_42_method_149_code (6 : Nat) (Option.none : Option Jvm.ClassFile.FieldType), Jvm.Cond.code ({ cls := "java/lang/Object", name := "<init>", desc := "()V" } : Jvm.MethodName) object_method_1_code (1 : Nat) (Option.none : Option Jvm.ClassFile.FieldType), Jvm.Cond.code ({ cls := "com/example/vouchsafe/vouchsafe/Digests", name := "readHex", desc := "(Ljava/lang/String;I)[B" } : Jvm.MethodName) prog_18_method_9_code (7 : Nat) (Option.some (Jvm.ClassFile.FieldType.array Jvm.ClassFile.FieldType.byte)), Jvm.Cond.code ({ cls := "java/lang/String", name := "length", desc := "()I" } : Jvm.MethodName) jdk_42_method_54_code (1 : Nat) (Option.some Jvm.ClassFile.FieldType.int), Jvm.Cond.code ({ cls := "java/lang/String", name := "coder", desc := "()B" } : Jvm.MethodName) jdk_42_method_152_code (1 : Nat) (Option.some Jvm.ClassFile.FieldType.byte), Jvm.Cond.code ({ cls := "com/example/vouchsafe/vouchsafe/DigestsReadHexPinLaw", name := "val", desc := "(C)I" } : Jvm.MethodName) method_4_code (1 : Nat) (Option.some Jvm.ClassFile.FieldType.int), Jvm.Cond.code ({ cls := "java/lang/StringUTF16", name := "compress", desc := "([CII)[B" } : Jvm.MethodName) jdk_52_method_16_code (6 : Nat) (Option.some (Jvm.ClassFile.FieldType.array Jvm.ClassFile.FieldType.byte)), Jvm.Cond.code ({ cls := "java/lang/StringUTF16", name := "compress", desc := "([CI[BII)I" } : Jvm.MethodName) jdk_52_method_21_code (7 : Nat) (Option.some Jvm.ClassFile.FieldType.int), Jvm.Cond.code ({ cls := "java/lang/StringUTF16", name := "coderFromArrayLen", desc := "([BI)B" } : Jvm.MethodName) jdk_52_method_15_code (2 : Nat) (Option.some Jvm.ClassFile.FieldType.byte), Jvm.Cond.code ({ cls := "java/lang/String", name := "charAt", desc := "(I)C" } : Jvm.MethodName) jdk_42_method_56_code (2 : Nat) (Option.some Jvm.ClassFile.FieldType.char), Jvm.Cond.code ({ cls := "java/lang/String", name := "isLatin1", desc := "()Z" } : Jvm.MethodName) jdk_42_method_154_code (1 : Nat) (Option.some Jvm.ClassFile.FieldType.boolean), Jvm.Cond.code ({ cls := "java/lang/StringLatin1", name := "charAt", desc := "([BI)C" } : Jvm.MethodName) jdk_43_method_2_code (2 : Nat) (Option.some Jvm.ClassFile.FieldType.char), Jvm.Cond.code ({ cls := "java/lang/String", name := "checkIndex", desc := "(II)V" } : Jvm.MethodName) jdk_42_method_155_code (2 : Nat) (Option.none : Option Jvm.ClassFile.FieldType), Jvm.Cond.code ({ cls := "jdk/internal/util/Preconditions", name := "checkIndex", desc := "(IILjava/util/function/BiFunction;)I" } : Jvm.MethodName) jdk_41_method_11_code (3 : Nat) (Option.some Jvm.ClassFile.FieldType.int), Jvm.Cond.code ({ cls := "com/example/vouchsafe/vouchsafe/Digests", name := "hexValue", desc := "(C)I" } : Jvm.MethodName) prog_18_method_10_code (1 : Nat) (Option.some Jvm.ClassFile.FieldType.int)]
set_option maxRecDepth 65536 in
theorem codes_eq : words1.filter isCode = codes1 := rfl
theorem w_codes : ∀ c ∈ words1.filter isCode, c.before args0 about1 = true := by
  rw [codes_eq]
  intro c hc
  simp only [codes1, List.mem_cons, List.not_mem_nil, or_false] at hc
  rcases hc with rfl | rfl | rfl | rfl | rfl | rfl | rfl | rfl | rfl | rfl | rfl | rfl | rfl | rfl | rfl | rfl | rfl | rfl | rfl
  · exact w_c0
  · exact w_c1
  · exact w_c2
  · exact w_c3
  · exact w_c4
  · exact w_c5
  · exact w_c6
  · exact w_c7
  · exact w_c8
  · exact w_c9
  · exact w_c10
  · exact w_c11
  · exact w_c12
  · exact w_c13
  · exact w_c14
  · exact w_c15
  · exact w_c16
  · exact w_c17
  · exact w_c18
set_option maxRecDepth 65536 in
theorem w_t1 : (words1.take 24).all (fun c => isCode c || c.before args0 about1) = true := by decide +kernel
set_option maxRecDepth 65536 in
theorem w_t2 : ((words1.drop 24).take 24).all (fun c => isCode c || c.before args0 about1) = true := by decide +kernel
set_option maxRecDepth 65536 in
theorem w_t3 : (((words1.drop 24).drop 24).take 24).all (fun c => isCode c || c.before args0 about1) = true := by decide +kernel
set_option maxRecDepth 65536 in
theorem w_t4 : (((words1.drop 24).drop 24).drop 24).all (fun c => isCode c || c.before args0 about1) = true := by decide +kernel
theorem w_tables : (allAtoms (Jvm.Cond.code x code maxLocals ret :: tables_1)).before args0 about1 = true := by
  rw [allAtoms_all]
  show words1.all (fun c => c.before args0 about1) = true
  refine all_split ?_ w_codes
  rw [← List.take_append_drop 24 words1, List.all_append, w_t1, ← List.take_append_drop 24 (words1.drop 24), List.all_append, w_t2, ← List.take_append_drop 24 ((words1.drop 24).drop 24), List.all_append, w_t3, w_t4]
  rfl
set_option maxRecDepth 65536 in
theorem w_rest : rest_1_c.before args0 about1 = true := by decide +kernel
set_option maxRecDepth 65536 in
theorem w_case : (Jvm.Cond.and given_1 narrow_1).before args0 about1 = true := by decide +kernel
set_option maxRecDepth 65536 in
theorem w_consts : constsHeld consts_1 about1 := Jvm.Lit.constsHeldB_iff.mp (by decide +kernel)
theorem w_applies : (headSpec (Jvm.Cond.code x code maxLocals ret :: tables_1) room_1).applies x e0.platform about1 = true :=
  (Spec.applies_iff w_frames).mpr ⟨w_running, w_runnable, w_alone, w_named, w_hears, w_ripe, w_room, w_tables⟩
theorem atStart : AtStart classFile x code maxLocals ret World_1 tables_1 room_1 Calls_1 rest_1 Pre_1 launch0 p0 e0 about1 theMethod args0 below0 :=
  ⟨lists_1, trivial, launch0.admits_env _ _ _, launch0.least_env, fairChoices_fair.cas, fairChoices_fair.clock, w_frames, w_args, w_heap, w_applies, ⟨w_consts, trivial⟩, w_rest, w_case⟩
end start1
theorem witness_1 : WitnessClaimed_1 := ⟨start1.p0, start1.e0, start1.about1, start1.theMethod, start1.args0, start1.below0, start1.atStart⟩
end Jvm.Pilot.@@N@@
