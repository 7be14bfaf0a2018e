import JvmDerived
import JvmDerived.Pilot.@@N@@Statement
import JvmDerived.Pilot.@@N@@Code
set_option linter.unusedVariables false
set_option linter.unusedSimpArgs false
namespace Jvm.Pilot.@@N@@
open Jvm Jvm.ClassFile Sem Op Lib Jvm.Free Jvm.Stand Jvm.LawKit Jvm.RoadKit Bundle Jvm.Pilot.@@N@@.Jvm.D
/-- from the point (T, g) the body comes to its end, with what P says of value, heap and places -/
def own_E (p : Program) (e : Env) (below : List Frame) (s : State) (k n : Nat) (P : Option Value → Heap → List Loc → Prop) (T : State) (g : JFrame) : Prop :=
  ∃ s₂ o, Steps p.tables e below (T.setTop g) s₂ ∧ s₂.status = .running ∧ Ended s₂ below o ∧ ∃ v L, o = .returned v ∧ P v s₂.heap L ∧ FrameEnd s o s₂ L k n
/-- what a law leaves: true, and nothing old written -/
def own_L (n0 : Nat) (v : Option Value) (h : Heap) (L : List Loc) : Prop := v = some (.int (1 : Int32)) ∧ Fr n0 L
section Own
variable {p : Program} {l : Launch} {e : Env} {R : Room} {s : State} {m : MethodId} {args : Array Value} {below : List Frame} {meth : Method} {c : Code} {T T' : State} {locs : List Loc} {cells slots : Nat} {k n : Nat} {P : Option Value → Heap → List Loc → Prop} {g g' : JFrame}
theorem own_st (h : ∀ t, Steps p.tables e below (T'.setTop g') t → Steps p.tables e below (T.setTop g) t) (E : own_E p e below s k n P T' g') : own_E p e below s k n P T g := by
  obtain ⟨s₂, o, h1, r⟩ := E; exact ⟨s₂, o, h _ h1, r⟩
theorem own_end (X : Stand p l e R s m args below meth c T locs cells slots) {v : Option Value} (hv : meth.sig.returnType = none → v = none) (hlk : meth.locks = false) (hk : cells ≤ k) (hn : slots ≤ n) (hP : P v T.heap locs)
    (h : ∀ fs : List Frame, (∀ (f : JFrame) (acts : List Action), f.method = m → f.locked = none → f.entered = [] → (doReturn e (T.setTop f) acts v).1 = T.setFrames fs) → Steps p.tables e below (T.setTop g) (T.setFrames fs)) : own_E p e below s k n P T g := by
  obtain ⟨fs, hr, hrun, hended, hW, hsame⟩ := X.leave (v := v) hv hlk
  exact ⟨_, _, h fs hr, hrun, hended, _, _, rfl, hP, ⟨_, rfl⟩, hW, hsame.mono hk hn⟩
theorem own_retV (X : Stand p l e R s m args below meth c T locs cells slots) (hx : p.tables.exec = Jvm.exec) (hret : meth.sig.returnType = none) (hlk : meth.locks = false) {pc : Nat} {Ls : Array Slot} (hd : decode c.code pc = .ok (.return_, 1)) (hk : cells ≤ k) (hn : slots ≤ n) (hP : P none T.heap locs) : own_E p e below s k n P T (mkF m pc Ls []) :=
  own_end X (fun _ => rfl) hlk hk hn hP fun _ hr => X.returnOut hx hret hd hr
theorem own_retN (X : Stand p l e R s m args below meth c T locs cells slots) (hx : p.tables.exec = Jvm.exec) {t : FieldType} (hret : meth.sig.returnType = some t) (ht : t = .boolean ∨ t = .byte ∨ t = .char ∨ t = .short) (hlk : meth.locks = false) {pc : Nat} {Ls : Array Slot} {z : Int32} {rest : List Value} (hd : decode c.code pc = .ok (.ireturn, 1)) (hk : cells ≤ k) (hn : slots ≤ n) (hP : P (some (.int (nar t z))) T.heap locs) : own_E p e below s k n P T (mkF m pc Ls (.int z :: rest)) :=
  own_end X (fun h => by rw [hret] at h; cases h) hlk hk hn hP fun _ hr => retN X hx hret ht hd hr
theorem own_retI (X : Stand p l e R s m args below meth c T locs cells slots) (hx : p.tables.exec = Jvm.exec) (hret : meth.sig.returnType = some .int) (hlk : meth.locks = false) {pc : Nat} {Ls : Array Slot} {z : Int32} {rest : List Value} (hd : decode c.code pc = .ok (.ireturn, 1)) (hk : cells ≤ k) (hn : slots ≤ n) (hP : P (some (.int z)) T.heap locs) : own_E p e below s k n P T (mkF m pc Ls (.int z :: rest)) :=
  own_end X (fun h => by rw [hret] at h; cases h) hlk hk hn hP fun _ hr => retOut X hx hret rfl (Or.inl ⟨rfl, Or.inl rfl, z, rfl⟩) hd hr
theorem own_retL (X : Stand p l e R s m args below meth c T locs cells slots) (hx : p.tables.exec = Jvm.exec) (hret : meth.sig.returnType = some .long) (hlk : meth.locks = false) {pc : Nat} {Ls : Array Slot} {z : Int64} {rest : List Value} (hd : decode c.code pc = .ok (.lreturn, 1)) (hk : cells ≤ k) (hn : slots ≤ n) (hP : P (some (.long z)) T.heap locs) : own_E p e below s k n P T (mkF m pc Ls (.long z :: rest)) :=
  own_end X (fun h => by rw [hret] at h; cases h) hlk hk hn hP fun _ hr => retOut X hx hret rfl (Or.inr (Or.inl ⟨rfl, rfl, z, rfl⟩)) hd hr
theorem own_narR {t : FieldType} {v : Value} (ht : t.isReference = true) : narrow t v = v := by cases t <;> first | (cases ht; done) | (cases v <;> rfl)
theorem own_fitR {t : FieldType} {v : Value} (h : v.isRef = true) (ht : t.isReference = true) : fits t v = true := by cases t <;> first | (cases ht; done) | (cases v <;> first | (cases h; done) | rfl)
theorem own_retA (X : Stand p l e R s m args below meth c T locs cells slots) (hx : p.tables.exec = Jvm.exec) {t : FieldType} (hret : meth.sig.returnType = some t) (ht : t.isReference = true) {w : Value} (hw : w.isRef = true) (hlk : meth.locks = false) {pc : Nat} {Ls : Array Slot} {rest : List Value} (hd : decode c.code pc = .ok (.areturn, 1)) (hk : cells ≤ k) (hn : slots ≤ n) (hP : P (some w) T.heap locs) : own_E p e below s k n P T (mkF m pc Ls (w :: rest)) :=
  own_end X (fun h => by rw [hret] at h; cases h) hlk hk hn hP fun _ hr => retOut X hx hret (own_narR ht) (Or.inr (Or.inr (Or.inr (Or.inr ⟨rfl, ht, hw⟩)))) hd hr
end Own
theorem own_z {Z : State} {n0 : Nat} {h : Heap} (O : Old Z n0 h) : n0 ≤ h.size := O.1 ▸ O.2.1
theorem own_oldlt {Z : State} {n0 : Nat} {h : Heap} {a : Addr} (O : Old Z n0 h) (q : a < Z.heap.size) : a < h.size := Nat.lt_of_lt_of_le q O.2.1
theorem own_ext {h h' : Heap} (K : Keep h h' []) : Ext h h' := ⟨K.1, fun x c q => K.2.1 x c q nin0⟩
theorem own_fld0 {args : Array Value} {Z : State} {t : Term} {a : Addr} {C n d : String} {k : Int32} (ev : t.eval args Z none [] Z = some (.ref a)) (h : (Jvm.Cond.eq (Term.field t C n d) (Term.int k)).value args Z none Z [] = some true) : Fld Z Z.heap a C n d (.int k) := by
  cases hv : Z.fieldOf? a C n d with
  | none => simp [Cond.value, Term.eval, ev, hv] at h
  | some x => cases x <;> simp [Cond.value, Term.eval, ev, hv] at h; subst h; exact Fld.start hv
theorem own_nz {args : Array Value} {Z : State} {t : Term} {cz : Int32} (ev : t.eval args Z none [] Z = some (.int cz)) (h : (Jvm.Cond.not (Jvm.Cond.eq t (Term.int (0 : Int32)))).value args Z none Z [] = some true) : ¬ cz = (0 : Int32) := by
  simpa [Cond.value, ev, Term.eval] using h
theorem own_neF {Z : State} {h : Heap} {a b : Addr} {C n d : String} {x y : Value} (F : Fld Z h a C n d x) (G : Fld Z h b C n d y) (q : x ≠ y) : a ≠ b := fun e => by
  subst e
  obtain ⟨c1, cf1, k1, i1, f1, h1, h2, -, -, -, -, h7⟩ := F
  obtain ⟨c2, cf2, k2, i2, f2, g1, g2, -, -, -, -, g7⟩ := G
  cases h1.symm.trans g1
  cases h2.symm.trans g2
  exact q (Option.some.inj (h7.symm.trans g7))
theorem own_rem (x y : Int32) (d : Int) (hd : 0 < d) (hy : y.toInt = d) : 0 ≤ ((x &&& 2147483647) % y).toInt ∧ ((x &&& 2147483647) % y).toInt < d := by
  have h1 := (c_andS x 2147483647).2.2 (by decide)
  have h2 := (c_irem (x &&& 2147483647) y d hy).1 h1
  rw [h2]; exact ⟨Int.emod_nonneg _ (by omega), Int.emod_lt_of_pos _ hd⟩
theorem own_nc (x : Int32) : nar .char ((x &&& 255).toUInt32.toUInt16.toUInt32.toInt32) = x &&& 255 := by
  show ((x &&& 255).toUInt32.toUInt16.toUInt32.toInt32).toUInt32.toUInt16.toUInt32.toInt32 = _
  rw [i2c_mask, i2c_mask]
theorem own_r255 (x : Int32) : ¬ (x &&& 255) < (0 : Int32) ∧ ¬ (255 : Int32) < (x &&& 255) := by
  have e := c_mask x 255 8 (by decide) (by decide)
  have z0 : (0 : Int32).toInt = 0 := rfl
  have z1 : (255 : Int32).toInt = 255 := rfl
  have z2 : ((2 ^ 8 : Nat) : Int) = 256 := rfl
  constructor <;> rw [Int32.lt_iff_toInt_lt] <;> omega
theorem own_c255 (x : Int32) : ¬ (255 : Int32) < nar .char ((x &&& 255).toUInt32.toUInt16.toUInt32.toInt32) := by rw [own_nc]; exact (own_r255 x).2
theorem own_eqI {x y : Int32} (h : x.toInt = y.toInt) : x = y := Int32.toInt_inj.mp h
def own_inc (pl pr bo lo ro : Int32) : Int32 := if pl = 0 then (if pr = 0 then 0 else if ro = 0 then 0 else 1) else if pr = 0 then nar .boolean lo else nar .boolean bo
theorem d1_0 : decode prog_20_method_7_code 0 = .ok (.iload_n 1, 1) := by decide +kernel
theorem d1_1 : decode prog_20_method_7_code 1 = .ok (.ifCond .eq 15, 3) := by decide +kernel
theorem d1_4 : decode prog_20_method_7_code 4 = .ok (.iload_n 2, 1) := by decide +kernel
theorem d1_5 : decode prog_20_method_7_code 5 = .ok (.ifCond .eq 11, 3) := by decide +kernel
theorem d1_8 : decode prog_20_method_7_code 8 = .ok (.aload_n 0, 1) := by decide +kernel
theorem d1_9 : decode prog_20_method_7_code 9 = .ok (.getfield 36, 3) := by decide +kernel
theorem d1_12 : decode prog_20_method_7_code 12 = .ok (.istore_n 3, 1) := by decide +kernel
theorem d1_13 : decode prog_20_method_7_code 13 = .ok (.goto 32, 3) := by decide +kernel
theorem d1_16 : decode prog_20_method_7_code 16 = .ok (.iload_n 1, 1) := by decide +kernel
theorem d1_17 : decode prog_20_method_7_code 17 = .ok (.ifCond .eq 11, 3) := by decide +kernel
theorem d1_20 : decode prog_20_method_7_code 20 = .ok (.aload_n 0, 1) := by decide +kernel
theorem d1_21 : decode prog_20_method_7_code 21 = .ok (.getfield 32, 3) := by decide +kernel
theorem d1_24 : decode prog_20_method_7_code 24 = .ok (.istore_n 3, 1) := by decide +kernel
theorem d1_25 : decode prog_20_method_7_code 25 = .ok (.goto 20, 3) := by decide +kernel
theorem d1_28 : decode prog_20_method_7_code 28 = .ok (.iload_n 2, 1) := by decide +kernel
theorem d1_29 : decode prog_20_method_7_code 29 = .ok (.ifCond .eq 14, 3) := by decide +kernel
theorem d1_32 : decode prog_20_method_7_code 32 = .ok (.aload_n 0, 1) := by decide +kernel
theorem d1_33 : decode prog_20_method_7_code 33 = .ok (.getfield 39, 3) := by decide +kernel
theorem d1_36 : decode prog_20_method_7_code 36 = .ok (.ifCond .eq 7, 3) := by decide +kernel
theorem d1_39 : decode prog_20_method_7_code 39 = .ok (.iconst 1, 1) := by decide +kernel
theorem d1_40 : decode prog_20_method_7_code 40 = .ok (.goto 4, 3) := by decide +kernel
theorem d1_43 : decode prog_20_method_7_code 43 = .ok (.iconst 0, 1) := by decide +kernel
theorem d1_44 : decode prog_20_method_7_code 44 = .ok (.istore_n 3, 1) := by decide +kernel
theorem d1_45 : decode prog_20_method_7_code 45 = .ok (.iload_n 3, 1) := by decide +kernel
theorem d1_46 : decode prog_20_method_7_code 46 = .ok (.ireturn, 1) := by decide +kernel
theorem pn_0 : plainName "com/example/ixora/ixora/membership/CompositeType" = true := by first | (simp [plainName, overriddenIn]; done) | decide +kernel
theorem ef_inc (m : MethodId) (x0 : Addr) (x1 : Int32) (x2 : Int32) : entryFrame m #[(.ref x0), (.int x1), (.int x2)] 4 = mkF m 0 #[.val (.ref x0), .val (.int x1), .val (.int x2), .unset] [] := by first | (simp [entryFrame, mkF, argsToLocals, Value.category]; done) | rfl
def Q_inc (Z : State) (a : Addr) (pl : Int32) (pr : Int32) (bo : Int32) (lo : Int32) (ro : Int32) (h0 : Heap) (n0 : Nat) (v : Option Value) (h : Heap) (L : List Loc) : Prop := (v = some (.int (own_inc pl pr bo lo ro))) ∧ (Fr n0 L) ∧ (h = h0)
set_option maxRecDepth 65536 in
set_option maxHeartbeats 40000000 in
theorem rm_inc (l : Launch) (Z : State) (a0 : Array Value) (hw : ∀ d ∈ tables_1, d.before a0 Z = true) (ws : List Jvm.Cond) (a : Addr) (pl : Int32) (pr : Int32) (bo : Int32) (lo : Int32) (ro : Int32) (h0 : Heap) (n0 : Nat) (O0 : Old Z n0 h0) (F1 : Fld Z Z.heap a "com/example/ixora/ixora/membership/CompositeType" "both" "Z" (.int bo)) (F2 : Fld Z Z.heap a "com/example/ixora/ixora/membership/CompositeType" "leftOnly" "Z" (.int lo)) (F3 : Fld Z Z.heap a "com/example/ixora/ixora/membership/CompositeType" "rightOnly" "Z" (.int ro)) :
    MetFree l (⟨"com/example/ixora/ixora/membership/CompositeType", "includes", "(ZZ)Z"⟩ : MethodName) (head1 (Jvm.Cond.code (⟨"com/example/ixora/ixora/membership/CompositeType", "includes", "(ZZ)Z"⟩ : MethodName) prog_20_method_7_code 4 (some .boolean) :: ws) ({ frames := 0, cells := 0, slots := 0, locals := 0 } : Room)) (fun ar_ U => ar_ = #[(.ref a), (.int pl), (.int pr)] ∧ Z.Warmed39 U.vm ∧ U.heap = h0) (fun _ _ _ _ _ => True) (fun _ U o U' => ∃ v L, o = .returned v ∧ Q_inc Z a pl pr bo lo ro h0 n0 v U'.heap L ∧ FrameEnd U o U' L ({ frames := 0, cells := 0, slots := 0, locals := 0 } : Room).cells ({ frames := 0, cells := 0, slots := 0, locals := 0 } : Room).slots) := by
  refine MetFree.of_bodySF (plainFor_of_name pn_0) hisR ?_
  intro p e s m args below meth c s₁ Bd hml0 hP hK
  obtain ⟨rfl, hZ, hh⟩ := hP
  have hx := Bd.exec
  have hby := Bd.bytes
  have hml : c.maxLocals = 4 := hml0
  have hown : s.vm.findClass "com/example/ixora/ixora/membership/CompositeType" = some m.cls := findClass_of_methodNamed Bd.named
  have hnm := (name_of_methodNamed Bd.named Bd.method).1
  have X0 : Stand p l e ({ frames := 0, cells := 0, slots := 0, locals := 0 } : Room) s m #[(.ref a), (.int pl), (.int pr)] below meth c s₁ [] 0 0 := Stand.of_body Bd
  have e0 : s₁.heap = h0 := by rw [← hh, Bd.state]; rfl
  have N0 := Fr.nil n0
  have hret := Bd.returns
  have hlk : meth.locks = false := Bd.notSynchronized
  show own_E p e below s ({ frames := 0, cells := 0, slots := 0, locals := 0 } : Room).cells ({ frames := 0, cells := 0, slots := 0, locals := 0 } : Room).slots (Q_inc Z a pl pr bo lo ro h0 n0) s₁ (entryFrame m #[(.ref a), (.int pl), (.int pr)] 4)
  rw [ef_inc m a pl pr]
  refine own_st (T' := s₁) (g' := (mkF m 1 #[.val (.ref a), .val (.int pl), .val (.int pr), .unset] [(.int pl)])) (fun t_ k_ => XS.iloadN X0.here hx rfl (hb hby d1_0) rfl  k_) ?_
  by_cases hc1 : pl = (0 : Int32)
  · refine own_st (T' := s₁) (g' := (mkF m 16 #[.val (.ref a), .val (.int pl), .val (.int pr), .unset] [])) (fun t_ k_ => XS.ifYes X0.here hx rfl (pc0 := 1) (pc' := 16) rfl (hb hby d1_1) rfl ((if0 _ _).trans (teq hc1).1) (by decide) (by decide) k_) ?_
    refine own_st (T' := s₁) (g' := (mkF m 17 #[.val (.ref a), .val (.int pl), .val (.int pr), .unset] [(.int pl)])) (fun t_ k_ => XS.iloadN X0.here hx rfl (hb hby d1_16) rfl  k_) ?_
    refine own_st (T' := s₁) (g' := (mkF m 28 #[.val (.ref a), .val (.int pl), .val (.int pr), .unset] [])) (fun t_ k_ => XS.ifYes X0.here hx rfl (pc0 := 17) (pc' := 28) rfl (hb hby d1_17) rfl ((if0 _ _).trans (teq hc1).1) (by decide) (by decide) k_) ?_
    refine own_st (T' := s₁) (g' := (mkF m 29 #[.val (.ref a), .val (.int pl), .val (.int pr), .unset] [(.int pr)])) (fun t_ k_ => XS.iloadN X0.here hx rfl (hb hby d1_28) rfl  k_) ?_
    by_cases hc2 : pr = (0 : Int32)
    · refine own_st (T' := s₁) (g' := (mkF m 43 #[.val (.ref a), .val (.int pl), .val (.int pr), .unset] [])) (fun t_ k_ => XS.ifYes X0.here hx rfl (pc0 := 29) (pc' := 43) rfl (hb hby d1_29) rfl ((if0 _ _).trans (teq hc2).1) (by decide) (by decide) k_) ?_
      refine own_st (T' := s₁) (g' := (mkF m 44 #[.val (.ref a), .val (.int pl), .val (.int pr), .unset] [(.int (0 : Int32))])) (fun t_ k_ => XS.iconst X0.here hx rfl (hb hby d1_43) k_) ?_
      refine own_st (T' := s₁) (g' := (mkF m 45 #[.val (.ref a), .val (.int pl), .val (.int pr), .val (.int (0 : Int32))] [])) (fun t_ k_ => XS.istoreN X0.here hx rfl (hb hby d1_44) rfl (l' := #[.val (.ref a), .val (.int pl), .val (.int pr), .val (.int (0 : Int32))]) rfl k_) ?_
      refine own_st (T' := s₁) (g' := (mkF m 46 #[.val (.ref a), .val (.int pl), .val (.int pr), .val (.int (0 : Int32))] [(.int (0 : Int32))])) (fun t_ k_ => XS.iloadN X0.here hx rfl (hb hby d1_45) rfl  k_) ?_
      exact own_retN X0 hx (t := .boolean) hret (by simp) hlk (hb hby d1_46) (by decide) (by decide) ⟨(by simp +decide [own_inc, hc1, hc2]), N0, e0⟩
    · refine own_st (T' := s₁) (g' := (mkF m 32 #[.val (.ref a), .val (.int pl), .val (.int pr), .unset] [])) (fun t_ k_ => XS.ifNo X0.here hx rfl (hb hby d1_29) rfl ((if0 _ _).trans (feq hc2).1) k_) ?_
      refine own_st (T' := s₁) (g' := (mkF m 33 #[.val (.ref a), .val (.int pl), .val (.int pr), .unset] [(.ref a)])) (fun t_ k_ => XS.aloadN X0.here hx rfl (hb hby d1_32) rfl rfl  k_) ?_
      obtain ⟨T3, X3, e3, st3⟩ := getF X0 hx hZ hown (host := "") (Or.inl (hw _ (List.mem_of_getElem? (i := 17) rfl))) Via.refl e0 (F3.ext O0.2) (g := (mkF m 33 #[.val (.ref a), .val (.int pl), .val (.int pr), .unset] [(.ref a)])) rfl rfl (hb hby d1_33)
      refine own_st (T' := T3) (g' := (mkF m 36 #[.val (.ref a), .val (.int pl), .val (.int pr), .unset] [(.int ro)])) st3 ?_
      by_cases hc4 : ro = (0 : Int32)
      · refine own_st (T' := T3) (g' := (mkF m 43 #[.val (.ref a), .val (.int pl), .val (.int pr), .unset] [])) (fun t_ k_ => XS.ifYes X3.here hx rfl (pc0 := 36) (pc' := 43) rfl (hb hby d1_36) rfl ((if0 _ _).trans (teq hc4).1) (by decide) (by decide) k_) ?_
        refine own_st (T' := T3) (g' := (mkF m 44 #[.val (.ref a), .val (.int pl), .val (.int pr), .unset] [(.int (0 : Int32))])) (fun t_ k_ => XS.iconst X3.here hx rfl (hb hby d1_43) k_) ?_
        refine own_st (T' := T3) (g' := (mkF m 45 #[.val (.ref a), .val (.int pl), .val (.int pr), .val (.int (0 : Int32))] [])) (fun t_ k_ => XS.istoreN X3.here hx rfl (hb hby d1_44) rfl (l' := #[.val (.ref a), .val (.int pl), .val (.int pr), .val (.int (0 : Int32))]) rfl k_) ?_
        refine own_st (T' := T3) (g' := (mkF m 46 #[.val (.ref a), .val (.int pl), .val (.int pr), .val (.int (0 : Int32))] [(.int (0 : Int32))])) (fun t_ k_ => XS.iloadN X3.here hx rfl (hb hby d1_45) rfl  k_) ?_
        exact own_retN X3 hx (t := .boolean) hret (by simp) hlk (hb hby d1_46) (by decide) (by decide) ⟨(by simp +decide [own_inc, hc1, hc2, hc4]), N0, e3⟩
      · refine own_st (T' := T3) (g' := (mkF m 39 #[.val (.ref a), .val (.int pl), .val (.int pr), .unset] [])) (fun t_ k_ => XS.ifNo X3.here hx rfl (hb hby d1_36) rfl ((if0 _ _).trans (feq hc4).1) k_) ?_
        refine own_st (T' := T3) (g' := (mkF m 40 #[.val (.ref a), .val (.int pl), .val (.int pr), .unset] [(.int (1 : Int32))])) (fun t_ k_ => XS.iconst X3.here hx rfl (hb hby d1_39) k_) ?_
        refine own_st (T' := T3) (g' := (mkF m 44 #[.val (.ref a), .val (.int pl), .val (.int pr), .unset] [(.int (1 : Int32))])) (fun t_ k_ => XS.goto X3.here hx rfl (pc0 := 40) (pc' := 44) rfl (hb hby d1_40) (by decide) (by decide) k_) ?_
        refine own_st (T' := T3) (g' := (mkF m 45 #[.val (.ref a), .val (.int pl), .val (.int pr), .val (.int (1 : Int32))] [])) (fun t_ k_ => XS.istoreN X3.here hx rfl (hb hby d1_44) rfl (l' := #[.val (.ref a), .val (.int pl), .val (.int pr), .val (.int (1 : Int32))]) rfl k_) ?_
        refine own_st (T' := T3) (g' := (mkF m 46 #[.val (.ref a), .val (.int pl), .val (.int pr), .val (.int (1 : Int32))] [(.int (1 : Int32))])) (fun t_ k_ => XS.iloadN X3.here hx rfl (hb hby d1_45) rfl  k_) ?_
        exact own_retN X3 hx (t := .boolean) hret (by simp) hlk (hb hby d1_46) (by decide) (by decide) ⟨(by simp +decide [own_inc, hc1, hc2, hc4]), N0, e3⟩
  · refine own_st (T' := s₁) (g' := (mkF m 4 #[.val (.ref a), .val (.int pl), .val (.int pr), .unset] [])) (fun t_ k_ => XS.ifNo X0.here hx rfl (hb hby d1_1) rfl ((if0 _ _).trans (feq hc1).1) k_) ?_
    refine own_st (T' := s₁) (g' := (mkF m 5 #[.val (.ref a), .val (.int pl), .val (.int pr), .unset] [(.int pr)])) (fun t_ k_ => XS.iloadN X0.here hx rfl (hb hby d1_4) rfl  k_) ?_
    by_cases hc5 : pr = (0 : Int32)
    · refine own_st (T' := s₁) (g' := (mkF m 16 #[.val (.ref a), .val (.int pl), .val (.int pr), .unset] [])) (fun t_ k_ => XS.ifYes X0.here hx rfl (pc0 := 5) (pc' := 16) rfl (hb hby d1_5) rfl ((if0 _ _).trans (teq hc5).1) (by decide) (by decide) k_) ?_
      refine own_st (T' := s₁) (g' := (mkF m 17 #[.val (.ref a), .val (.int pl), .val (.int pr), .unset] [(.int pl)])) (fun t_ k_ => XS.iloadN X0.here hx rfl (hb hby d1_16) rfl  k_) ?_
      refine own_st (T' := s₁) (g' := (mkF m 20 #[.val (.ref a), .val (.int pl), .val (.int pr), .unset] [])) (fun t_ k_ => XS.ifNo X0.here hx rfl (hb hby d1_17) rfl ((if0 _ _).trans (feq hc1).1) k_) ?_
      refine own_st (T' := s₁) (g' := (mkF m 21 #[.val (.ref a), .val (.int pl), .val (.int pr), .unset] [(.ref a)])) (fun t_ k_ => XS.aloadN X0.here hx rfl (hb hby d1_20) rfl rfl  k_) ?_
      obtain ⟨T6, X6, e6, st6⟩ := getF X0 hx hZ hown (host := "") (Or.inl (hw _ (List.mem_of_getElem? (i := 13) rfl))) Via.refl e0 (F2.ext O0.2) (g := (mkF m 21 #[.val (.ref a), .val (.int pl), .val (.int pr), .unset] [(.ref a)])) rfl rfl (hb hby d1_21)
      refine own_st (T' := T6) (g' := (mkF m 24 #[.val (.ref a), .val (.int pl), .val (.int pr), .unset] [(.int lo)])) st6 ?_
      refine own_st (T' := T6) (g' := (mkF m 25 #[.val (.ref a), .val (.int pl), .val (.int pr), .val (.int lo)] [])) (fun t_ k_ => XS.istoreN X6.here hx rfl (hb hby d1_24) rfl (l' := #[.val (.ref a), .val (.int pl), .val (.int pr), .val (.int lo)]) rfl k_) ?_
      refine own_st (T' := T6) (g' := (mkF m 45 #[.val (.ref a), .val (.int pl), .val (.int pr), .val (.int lo)] [])) (fun t_ k_ => XS.goto X6.here hx rfl (pc0 := 25) (pc' := 45) rfl (hb hby d1_25) (by decide) (by decide) k_) ?_
      refine own_st (T' := T6) (g' := (mkF m 46 #[.val (.ref a), .val (.int pl), .val (.int pr), .val (.int lo)] [(.int lo)])) (fun t_ k_ => XS.iloadN X6.here hx rfl (hb hby d1_45) rfl  k_) ?_
      exact own_retN X6 hx (t := .boolean) hret (by simp) hlk (hb hby d1_46) (by decide) (by decide) ⟨(by simp +decide [own_inc, hc1, hc5]), N0, e6⟩
    · refine own_st (T' := s₁) (g' := (mkF m 8 #[.val (.ref a), .val (.int pl), .val (.int pr), .unset] [])) (fun t_ k_ => XS.ifNo X0.here hx rfl (hb hby d1_5) rfl ((if0 _ _).trans (feq hc5).1) k_) ?_
      refine own_st (T' := s₁) (g' := (mkF m 9 #[.val (.ref a), .val (.int pl), .val (.int pr), .unset] [(.ref a)])) (fun t_ k_ => XS.aloadN X0.here hx rfl (hb hby d1_8) rfl rfl  k_) ?_
      obtain ⟨T7, X7, e7, st7⟩ := getF X0 hx hZ hown (host := "") (Or.inl (hw _ (List.mem_of_getElem? (i := 9) rfl))) Via.refl e0 (F1.ext O0.2) (g := (mkF m 9 #[.val (.ref a), .val (.int pl), .val (.int pr), .unset] [(.ref a)])) rfl rfl (hb hby d1_9)
      refine own_st (T' := T7) (g' := (mkF m 12 #[.val (.ref a), .val (.int pl), .val (.int pr), .unset] [(.int bo)])) st7 ?_
      refine own_st (T' := T7) (g' := (mkF m 13 #[.val (.ref a), .val (.int pl), .val (.int pr), .val (.int bo)] [])) (fun t_ k_ => XS.istoreN X7.here hx rfl (hb hby d1_12) rfl (l' := #[.val (.ref a), .val (.int pl), .val (.int pr), .val (.int bo)]) rfl k_) ?_
      refine own_st (T' := T7) (g' := (mkF m 45 #[.val (.ref a), .val (.int pl), .val (.int pr), .val (.int bo)] [])) (fun t_ k_ => XS.goto X7.here hx rfl (pc0 := 13) (pc' := 45) rfl (hb hby d1_13) (by decide) (by decide) k_) ?_
      refine own_st (T' := T7) (g' := (mkF m 46 #[.val (.ref a), .val (.int pl), .val (.int pr), .val (.int bo)] [(.int bo)])) (fun t_ k_ => XS.iloadN X7.here hx rfl (hb hby d1_45) rfl  k_) ?_
      exact own_retN X7 hx (t := .boolean) hret (by simp) hlk (hb hby d1_46) (by decide) (by decide) ⟨(by simp +decide [own_inc, hc1, hc5]), N0, e7⟩
theorem pd__ZZ_Z : parseMethodDescriptor "(ZZ)Z" = some ⟨[.boolean, .boolean], some .boolean⟩ := by decide +kernel
theorem pn_1 : plainName "com/example/ixora/ixora/membership/CompositeTypeIncludesPinLaw" = true := by first | (simp [plainName, overriddenIn]; done) | decide +kernel
theorem ef_0 (m : MethodId) (x0 : Int32) (x1 : Int32) : entryFrame m #[(.int x0), (.int x1)] maxLocals = mkF m 0 #[.val (.int x0), .val (.int x1), .unset, .unset, .unset, .unset, .unset] [] := by first | (simp [entryFrame, mkF, argsToLocals, Value.category, maxLocals]; done) | rfl
set_option maxRecDepth 65536 in
set_option maxHeartbeats 40000000 in
theorem rm_0 (l : Launch) (Z : State) (a0 : Array Value) (hw : ∀ d ∈ tables_1, d.before a0 Z = true) (ws : List Jvm.Cond) (p1 : Int32) (p2 : Int32) (w_UNION : Addr) (w_INTERSECTION : Addr) (w_COMPLEMENT : Addr) (h0 : Heap) (n0 : Nat) (O0 : Old Z n0 h0) (S_UNION : Sta Z Z.heap "com/example/ixora/ixora/membership/CompositeType" "UNION" "Lcom/example/ixora/ixora/membership/CompositeType;" (.ref w_UNION)) (S_INTERSECTION : Sta Z Z.heap "com/example/ixora/ixora/membership/CompositeType" "INTERSECTION" "Lcom/example/ixora/ixora/membership/CompositeType;" (.ref w_INTERSECTION)) (S_COMPLEMENT : Sta Z Z.heap "com/example/ixora/ixora/membership/CompositeType" "COMPLEMENT" "Lcom/example/ixora/ixora/membership/CompositeType;" (.ref w_COMPLEMENT)) (X_UNION : Exa Z Z.heap w_UNION "com/example/ixora/ixora/membership/CompositeType") (X_INTERSECTION : Exa Z Z.heap w_INTERSECTION "com/example/ixora/ixora/membership/CompositeType") (X_COMPLEMENT : Exa Z Z.heap w_COMPLEMENT "com/example/ixora/ixora/membership/CompositeType") (F_UNION_both : Fld Z Z.heap w_UNION "com/example/ixora/ixora/membership/CompositeType" "both" "Z" (.int (1 : Int32))) (F_UNION_leftOnly : Fld Z Z.heap w_UNION "com/example/ixora/ixora/membership/CompositeType" "leftOnly" "Z" (.int (1 : Int32))) (F_UNION_rightOnly : Fld Z Z.heap w_UNION "com/example/ixora/ixora/membership/CompositeType" "rightOnly" "Z" (.int (1 : Int32))) (F_INTERSECTION_both : Fld Z Z.heap w_INTERSECTION "com/example/ixora/ixora/membership/CompositeType" "both" "Z" (.int (1 : Int32))) (F_INTERSECTION_leftOnly : Fld Z Z.heap w_INTERSECTION "com/example/ixora/ixora/membership/CompositeType" "leftOnly" "Z" (.int (0 : Int32))) (F_INTERSECTION_rightOnly : Fld Z Z.heap w_INTERSECTION "com/example/ixora/ixora/membership/CompositeType" "rightOnly" "Z" (.int (0 : Int32))) (F_COMPLEMENT_both : Fld Z Z.heap w_COMPLEMENT "com/example/ixora/ixora/membership/CompositeType" "both" "Z" (.int (0 : Int32))) (F_COMPLEMENT_leftOnly : Fld Z Z.heap w_COMPLEMENT "com/example/ixora/ixora/membership/CompositeType" "leftOnly" "Z" (.int (1 : Int32))) (F_COMPLEMENT_rightOnly : Fld Z Z.heap w_COMPLEMENT "com/example/ixora/ixora/membership/CompositeType" "rightOnly" "Z" (.int (0 : Int32))) :
    MetFree l x (head1 (Jvm.Cond.code x code maxLocals ret :: ws) room_1) (fun ar_ U => ar_ = #[(.int p1), (.int p2)] ∧ Z.Warmed39 U.vm ∧ U.heap = h0) (fun _ _ _ _ _ => True) (fun _ U o U' => ∃ v L, o = .returned v ∧ own_L n0 v U'.heap L ∧ FrameEnd U o U' L room_1.cells room_1.slots) := by
  refine MetFree.of_bodySF (plainFor_of_name pn_1) hisR ?_
  intro p e s m args below meth c s₁ Bd hml0 hP hK
  obtain ⟨rfl, hZ, hh⟩ := hP
  have hx := Bd.exec
  have hby := Bd.bytes
  have hml : c.maxLocals = 7 := hml0
  have hown : s.vm.findClass "com/example/ixora/ixora/membership/CompositeTypeIncludesPinLaw" = some m.cls := findClass_of_methodNamed Bd.named
  have hnm := (name_of_methodNamed Bd.named Bd.method).1
  have X0 : Stand p l e room_1 s m #[(.int p1), (.int p2)] below meth c s₁ [] 0 0 := Stand.of_body Bd
  have e0 : s₁.heap = h0 := by rw [← hh, Bd.state]; rfl
  have N0 := Fr.nil n0
  have hret := Bd.returns
  have hlk : meth.locks = false := Bd.notSynchronized
  show own_E p e below s room_1.cells room_1.slots (own_L n0) s₁ (entryFrame m #[(.int p1), (.int p2)] maxLocals)
  rw [ef_0 m p1 p2]
  refine own_st (T' := s₁) (g' := (mkF m 1 #[.val (.int p1), .val (.int p2), .unset, .unset, .unset, .unset, .unset] [(.int p2)])) (fun t_ k_ => XS.iloadN X0.here hx rfl (hb hby at_0) rfl  k_) ?_
  refine own_st (T' := s₁) (g' := (mkF m 2 #[.val (.int p1), .val (.int p2), .unset, .unset, .unset, .unset, .unset] [(.int (1 : Int32)), (.int p2)])) (fun t_ k_ => XS.iconst X0.here hx rfl (hb hby at_1) k_) ?_
  refine own_st (T' := s₁) (g' := (mkF m 3 #[.val (.int p1), .val (.int p2), .unset, .unset, .unset, .unset, .unset] [(.int (p2 &&& (1 : Int32)))])) (fun t_ k_ => XS.iand X0.here hx rfl (hb hby at_2) rfl k_) ?_
  by_cases hc1 : (p2 &&& (1 : Int32)) = (0 : Int32)
  · refine own_st (T' := s₁) (g' := (mkF m 10 #[.val (.int p1), .val (.int p2), .unset, .unset, .unset, .unset, .unset] [])) (fun t_ k_ => XS.ifYes X0.here hx rfl (pc0 := 3) (pc' := 10) rfl (hb hby at_3) rfl ((if0 _ _).trans (teq hc1).1) (by decide) (by decide) k_) ?_
    refine own_st (T' := s₁) (g' := (mkF m 11 #[.val (.int p1), .val (.int p2), .unset, .unset, .unset, .unset, .unset] [(.int (0 : Int32))])) (fun t_ k_ => XS.iconst X0.here hx rfl (hb hby at_10) k_) ?_
    refine own_st (T' := s₁) (g' := (mkF m 12 #[.val (.int p1), .val (.int p2), .val (.int (0 : Int32)), .unset, .unset, .unset, .unset] [])) (fun t_ k_ => XS.istoreN X0.here hx rfl (hb hby at_11) rfl (l' := #[.val (.int p1), .val (.int p2), .val (.int (0 : Int32)), .unset, .unset, .unset, .unset]) rfl k_) ?_
    refine own_st (T' := s₁) (g' := (mkF m 13 #[.val (.int p1), .val (.int p2), .val (.int (0 : Int32)), .unset, .unset, .unset, .unset] [(.int p2)])) (fun t_ k_ => XS.iloadN X0.here hx rfl (hb hby at_12) rfl  k_) ?_
    refine own_st (T' := s₁) (g' := (mkF m 14 #[.val (.int p1), .val (.int p2), .val (.int (0 : Int32)), .unset, .unset, .unset, .unset] [(.int (2 : Int32)), (.int p2)])) (fun t_ k_ => XS.iconst X0.here hx rfl (hb hby at_13) k_) ?_
    refine own_st (T' := s₁) (g' := (mkF m 15 #[.val (.int p1), .val (.int p2), .val (.int (0 : Int32)), .unset, .unset, .unset, .unset] [(.int (p2 &&& (2 : Int32)))])) (fun t_ k_ => XS.iand X0.here hx rfl (hb hby at_14) rfl k_) ?_
    by_cases hc2 : (p2 &&& (2 : Int32)) = (0 : Int32)
    · refine own_st (T' := s₁) (g' := (mkF m 22 #[.val (.int p1), .val (.int p2), .val (.int (0 : Int32)), .unset, .unset, .unset, .unset] [])) (fun t_ k_ => XS.ifYes X0.here hx rfl (pc0 := 15) (pc' := 22) rfl (hb hby at_15) rfl ((if0 _ _).trans (teq hc2).1) (by decide) (by decide) k_) ?_
      refine own_st (T' := s₁) (g' := (mkF m 23 #[.val (.int p1), .val (.int p2), .val (.int (0 : Int32)), .unset, .unset, .unset, .unset] [(.int (0 : Int32))])) (fun t_ k_ => XS.iconst X0.here hx rfl (hb hby at_22) k_) ?_
      refine own_st (T' := s₁) (g' := (mkF m 24 #[.val (.int p1), .val (.int p2), .val (.int (0 : Int32)), .val (.int (0 : Int32)), .unset, .unset, .unset] [])) (fun t_ k_ => XS.istoreN X0.here hx rfl (hb hby at_23) rfl (l' := #[.val (.int p1), .val (.int p2), .val (.int (0 : Int32)), .val (.int (0 : Int32)), .unset, .unset, .unset]) rfl k_) ?_
      refine own_st (T' := s₁) (g' := (mkF m 25 #[.val (.int p1), .val (.int p2), .val (.int (0 : Int32)), .val (.int (0 : Int32)), .unset, .unset, .unset] [(.int p1)])) (fun t_ k_ => XS.iloadN X0.here hx rfl (hb hby at_24) rfl  k_) ?_
      refine own_st (T' := s₁) (g' := (mkF m 27 #[.val (.int p1), .val (.int p2), .val (.int (0 : Int32)), .val (.int (0 : Int32)), .unset, .unset, .unset] [(.int (2147483647 : Int32)), (.int p1)])) (X0.ldcInt hx hown (mvT hZ (hw _ (List.mem_of_getElem? (i := 0) rfl))) (g := (mkF m 25 #[.val (.int p1), .val (.int p2), .val (.int (0 : Int32)), .val (.int (0 : Int32)), .unset, .unset, .unset] [(.int p1)])) rfl (hb hby at_25)) ?_
      refine own_st (T' := s₁) (g' := (mkF m 28 #[.val (.int p1), .val (.int p2), .val (.int (0 : Int32)), .val (.int (0 : Int32)), .unset, .unset, .unset] [(.int (p1 &&& (2147483647 : Int32)))])) (fun t_ k_ => XS.iand X0.here hx rfl (hb hby at_27) rfl k_) ?_
      refine own_st (T' := s₁) (g' := (mkF m 29 #[.val (.int p1), .val (.int p2), .val (.int (0 : Int32)), .val (.int (0 : Int32)), .unset, .unset, .unset] [(.int (3 : Int32)), (.int (p1 &&& (2147483647 : Int32)))])) (fun t_ k_ => XS.iconst X0.here hx rfl (hb hby at_28) k_) ?_
      refine own_st (T' := s₁) (g' := (mkF m 30 #[.val (.int p1), .val (.int p2), .val (.int (0 : Int32)), .val (.int (0 : Int32)), .unset, .unset, .unset] [(.int ((p1 &&& (2147483647 : Int32)) % (3 : Int32)))])) (fun t_ k_ => iremM X0 hx rfl (hb hby at_29) rfl (by decide) k_) ?_
      refine own_st (T' := s₁) (g' := (mkF m 32 #[.val (.int p1), .val (.int p2), .val (.int (0 : Int32)), .val (.int (0 : Int32)), .val (.int ((p1 &&& (2147483647 : Int32)) % (3 : Int32))), .unset, .unset] [])) (fun t_ k_ => XS.istore X0.here hx rfl (hb hby at_30) rfl (l' := #[.val (.int p1), .val (.int p2), .val (.int (0 : Int32)), .val (.int (0 : Int32)), .val (.int ((p1 &&& (2147483647 : Int32)) % (3 : Int32))), .unset, .unset]) rfl k_) ?_
      refine own_st (T' := s₁) (g' := (mkF m 34 #[.val (.int p1), .val (.int p2), .val (.int (0 : Int32)), .val (.int (0 : Int32)), .val (.int ((p1 &&& (2147483647 : Int32)) % (3 : Int32))), .unset, .unset] [(.int ((p1 &&& (2147483647 : Int32)) % (3 : Int32)))])) (fun t_ k_ => XS.iload X0.here hx rfl (hb hby at_32) rfl  k_) ?_
      by_cases hc3 : ((p1 &&& (2147483647 : Int32)) % (3 : Int32)) = (0 : Int32)
      · refine own_st (T' := s₁) (g' := (mkF m 37 #[.val (.int p1), .val (.int p2), .val (.int (0 : Int32)), .val (.int (0 : Int32)), .val (.int ((p1 &&& (2147483647 : Int32)) % (3 : Int32))), .unset, .unset] [])) (fun t_ k_ => XS.ifNo X0.here hx rfl (hb hby at_34) rfl ((if0 _ _).trans (teq hc3).2) k_) ?_
        obtain ⟨T4, X4, e4, st4⟩ := getS2 X0 hx hZ hown (host := "") (Or.inl (hw _ (List.mem_of_getElem? (i := 1) rfl))) Via.refl e0 (S_UNION.ext O0.2) (g := (mkF m 37 #[.val (.int p1), .val (.int p2), .val (.int (0 : Int32)), .val (.int (0 : Int32)), .val (.int ((p1 &&& (2147483647 : Int32)) % (3 : Int32))), .unset, .unset] [])) rfl (hb hby at_37)
        refine own_st (T' := T4) (g' := (mkF m 40 #[.val (.int p1), .val (.int p2), .val (.int (0 : Int32)), .val (.int (0 : Int32)), .val (.int ((p1 &&& (2147483647 : Int32)) % (3 : Int32))), .unset, .unset] [(.ref w_UNION)])) st4 ?_
        refine own_st (T' := T4) (g' := (mkF m 42 #[.val (.int p1), .val (.int p2), .val (.int (0 : Int32)), .val (.int (0 : Int32)), .val (.int ((p1 &&& (2147483647 : Int32)) % (3 : Int32))), .val (.ref w_UNION), .unset] [])) (fun t_ k_ => XS.astore X4.here hx rfl (hb hby at_40) rfl rfl (l' := #[.val (.int p1), .val (.int p2), .val (.int (0 : Int32)), .val (.int (0 : Int32)), .val (.int ((p1 &&& (2147483647 : Int32)) % (3 : Int32))), .val (.ref w_UNION), .unset]) rfl k_) ?_
        refine own_st (T' := T4) (g' := (mkF m 43 #[.val (.int p1), .val (.int p2), .val (.int (0 : Int32)), .val (.int (0 : Int32)), .val (.int ((p1 &&& (2147483647 : Int32)) % (3 : Int32))), .val (.ref w_UNION), .unset] [(.int (0 : Int32))])) (fun t_ k_ => XS.iloadN X4.here hx rfl (hb hby at_42) rfl  k_) ?_
        refine own_st (T' := T4) (g' := (mkF m 46 #[.val (.int p1), .val (.int p2), .val (.int (0 : Int32)), .val (.int (0 : Int32)), .val (.int ((p1 &&& (2147483647 : Int32)) % (3 : Int32))), .val (.ref w_UNION), .unset] [])) (fun t_ k_ => XS.ifNo X4.here hx rfl (hb hby at_43) rfl ((if0 _ _).trans (teq (rfl : (0 : Int32) = (0 : Int32))).2) k_) ?_
        refine own_st (T' := T4) (g' := (mkF m 47 #[.val (.int p1), .val (.int p2), .val (.int (0 : Int32)), .val (.int (0 : Int32)), .val (.int ((p1 &&& (2147483647 : Int32)) % (3 : Int32))), .val (.ref w_UNION), .unset] [(.int (0 : Int32))])) (fun t_ k_ => XS.iloadN X4.here hx rfl (hb hby at_46) rfl  k_) ?_
        refine own_st (T' := T4) (g' := (mkF m 54 #[.val (.int p1), .val (.int p2), .val (.int (0 : Int32)), .val (.int (0 : Int32)), .val (.int ((p1 &&& (2147483647 : Int32)) % (3 : Int32))), .val (.ref w_UNION), .unset] [])) (fun t_ k_ => XS.ifYes X4.here hx rfl (pc0 := 47) (pc' := 54) rfl (hb hby at_47) rfl ((if0 _ _).trans (teq (rfl : (0 : Int32) = (0 : Int32))).1) (by decide) (by decide) k_) ?_
        refine own_st (T' := T4) (g' := (mkF m 55 #[.val (.int p1), .val (.int p2), .val (.int (0 : Int32)), .val (.int (0 : Int32)), .val (.int ((p1 &&& (2147483647 : Int32)) % (3 : Int32))), .val (.ref w_UNION), .unset] [(.int (0 : Int32))])) (fun t_ k_ => XS.iconst X4.here hx rfl (hb hby at_54) k_) ?_
        refine own_st (T' := T4) (g' := (mkF m 57 #[.val (.int p1), .val (.int p2), .val (.int (0 : Int32)), .val (.int (0 : Int32)), .val (.int ((p1 &&& (2147483647 : Int32)) % (3 : Int32))), .val (.ref w_UNION), .val (.int (0 : Int32))] [])) (fun t_ k_ => XS.istore X4.here hx rfl (hb hby at_55) rfl (l' := #[.val (.int p1), .val (.int p2), .val (.int (0 : Int32)), .val (.int (0 : Int32)), .val (.int ((p1 &&& (2147483647 : Int32)) % (3 : Int32))), .val (.ref w_UNION), .val (.int (0 : Int32))]) rfl k_) ?_
        refine own_st (T' := T4) (g' := (mkF m 109 #[.val (.int p1), .val (.int p2), .val (.int (0 : Int32)), .val (.int (0 : Int32)), .val (.int ((p1 &&& (2147483647 : Int32)) % (3 : Int32))), .val (.ref w_UNION), .val (.int (0 : Int32))] [])) (fun t_ k_ => XS.goto X4.here hx rfl (pc0 := 57) (pc' := 109) rfl (hb hby at_57) (by decide) (by decide) k_) ?_
        refine own_st (T' := T4) (g' := (mkF m 111 #[.val (.int p1), .val (.int p2), .val (.int (0 : Int32)), .val (.int (0 : Int32)), .val (.int ((p1 &&& (2147483647 : Int32)) % (3 : Int32))), .val (.ref w_UNION), .val (.int (0 : Int32))] [(.ref w_UNION)])) (fun t_ k_ => XS.aload X4.here hx rfl (hb hby at_109) rfl rfl  k_) ?_
        refine own_st (T' := T4) (g' := (mkF m 112 #[.val (.int p1), .val (.int p2), .val (.int (0 : Int32)), .val (.int (0 : Int32)), .val (.int ((p1 &&& (2147483647 : Int32)) % (3 : Int32))), .val (.ref w_UNION), .val (.int (0 : Int32))] [(.int (0 : Int32)), (.ref w_UNION)])) (fun t_ k_ => XS.iloadN X4.here hx rfl (hb hby at_111) rfl  k_) ?_
        refine own_st (T' := T4) (g' := (mkF m 113 #[.val (.int p1), .val (.int p2), .val (.int (0 : Int32)), .val (.int (0 : Int32)), .val (.int ((p1 &&& (2147483647 : Int32)) % (3 : Int32))), .val (.ref w_UNION), .val (.int (0 : Int32))] [(.int (0 : Int32)), (.int (0 : Int32)), (.ref w_UNION)])) (fun t_ k_ => XS.iloadN X4.here hx rfl (hb hby at_112) rfl  k_) ?_
        obtain ⟨cq5, kq5, q5a, q5b, q5c⟩ := isOf hZ e4 (X_UNION.ext O0.2)
        obtain ⟨_, _, ⟨T5, L5, k5, n5⟩, -, X5, ⟨Lc5, hQ5, l5, y5, z5⟩, st5⟩ := X4.virtualBack hx (y := (⟨"com/example/ixora/ixora/membership/CompositeType", "includes", "(ZZ)Z"⟩ : MethodName)) (z := (⟨"com/example/ixora/ixora/membership/CompositeType", "includes", "(ZZ)Z"⟩ : MethodName)) hown (mvT hZ (hw _ (List.mem_of_getElem? (i := 4) rfl))) (mvT hZ (hw _ (List.mem_of_getElem? (i := 5) rfl))) (notFace_of_selects (args := #[]) (mvT hZ (hw _ (List.mem_of_getElem? (i := 7) rfl)))) (mvT hZ (hw _ (List.mem_of_getElem? (i := 7) rfl))) (mvT hZ (hw _ (List.mem_of_getElem? (i := 6) rfl))) (by decide) (backOf (W := 0) (rm_inc l Z a0 hw [] w_UNION (0 : Int32) (0 : Int32) (1 : Int32) (1 : Int32) (1 : Int32) h0 n0 O0 F_UNION_both F_UNION_leftOnly F_UNION_rightOnly) hZ (hw _ (List.mem_of_getElem? (i := 8) rfl)) (hw _ (List.mem_of_getElem? (i := 2) rfl)) (by decide) (by decide)) q5a q5c (g := (mkF m 113 #[.val (.int p1), .val (.int p2), .val (.int (0 : Int32)), .val (.int (0 : Int32)), .val (.int ((p1 &&& (2147483647 : Int32)) % (3 : Int32))), .val (.ref w_UNION), .val (.int (0 : Int32))] [(.int (0 : Int32)), (.int (0 : Int32)), (.ref w_UNION)])) rfl (by rw [hml]; rfl) (Steps.refl _) (argsL := [(.int (0 : Int32)), (.int (0 : Int32))]) (rest := []) (lenOf pd__ZZ_Z rfl) rfl (by show 2 * 0 + _ ≤ _; exact Nat.le_of_eq rfl) (hb hby at_113) (fun _ _ => ⟨rfl, e4, (by decide : 0 + 0 ≤ _), (by decide : 0 + 0 ≤ _)⟩)
        dsimp only [Pt.U, Pt.locs, Pt.cells, Pt.slots] at X5 l5 y5 z5 st5 hQ5
        subst l5 y5 z5
        obtain ⟨rfl, Nq5, eq5⟩ := hQ5
        have N5 := Fr.app N0 Nq5
        refine own_st (T' := T5) (g' := (mkF m 116 #[.val (.int p1), .val (.int p2), .val (.int (0 : Int32)), .val (.int (0 : Int32)), .val (.int ((p1 &&& (2147483647 : Int32)) % (3 : Int32))), .val (.ref w_UNION), .val (.int (0 : Int32))] [(.int (own_inc (0 : Int32) (0 : Int32) (1 : Int32) (1 : Int32) (1 : Int32)))])) (fun t_ k_ => st5.trans k_) ?_
        refine own_st (T' := T5) (g' := (mkF m 118 #[.val (.int p1), .val (.int p2), .val (.int (0 : Int32)), .val (.int (0 : Int32)), .val (.int ((p1 &&& (2147483647 : Int32)) % (3 : Int32))), .val (.ref w_UNION), .val (.int (0 : Int32))] [(.int (0 : Int32)), (.int (own_inc (0 : Int32) (0 : Int32) (1 : Int32) (1 : Int32) (1 : Int32)))])) (fun t_ k_ => XS.iload X5.here hx rfl (hb hby at_116) rfl  k_) ?_
        refine own_st (T' := T5) (g' := (mkF m 121 #[.val (.int p1), .val (.int p2), .val (.int (0 : Int32)), .val (.int (0 : Int32)), .val (.int ((p1 &&& (2147483647 : Int32)) % (3 : Int32))), .val (.ref w_UNION), .val (.int (0 : Int32))] [])) (fun t_ k_ => XS.icmpNo X5.here hx rfl (hb hby at_118) rfl (teq (by decide : (own_inc (0 : Int32) (0 : Int32) (1 : Int32) (1 : Int32) (1 : Int32)) = (0 : Int32))).2 k_) ?_
        refine own_st (T' := T5) (g' := (mkF m 122 #[.val (.int p1), .val (.int p2), .val (.int (0 : Int32)), .val (.int (0 : Int32)), .val (.int ((p1 &&& (2147483647 : Int32)) % (3 : Int32))), .val (.ref w_UNION), .val (.int (0 : Int32))] [(.int (1 : Int32))])) (fun t_ k_ => XS.iconst X5.here hx rfl (hb hby at_121) k_) ?_
        refine own_st (T' := T5) (g' := (mkF m 126 #[.val (.int p1), .val (.int p2), .val (.int (0 : Int32)), .val (.int (0 : Int32)), .val (.int ((p1 &&& (2147483647 : Int32)) % (3 : Int32))), .val (.ref w_UNION), .val (.int (0 : Int32))] [(.int (1 : Int32))])) (fun t_ k_ => XS.goto X5.here hx rfl (pc0 := 122) (pc' := 126) rfl (hb hby at_122) (by decide) (by decide) k_) ?_
        exact own_retN X5 hx (t := .boolean) hret (by simp) hlk (hb hby at_126) (by decide) (by decide) ⟨rfl, N5⟩
      · refine own_st (T' := s₁) (g' := (mkF m 60 #[.val (.int p1), .val (.int p2), .val (.int (0 : Int32)), .val (.int (0 : Int32)), .val (.int ((p1 &&& (2147483647 : Int32)) % (3 : Int32))), .unset, .unset] [])) (fun t_ k_ => XS.ifYes X0.here hx rfl (pc0 := 34) (pc' := 60) rfl (hb hby at_34) rfl ((if0 _ _).trans (feq hc3).2) (by decide) (by decide) k_) ?_
        refine own_st (T' := s₁) (g' := (mkF m 62 #[.val (.int p1), .val (.int p2), .val (.int (0 : Int32)), .val (.int (0 : Int32)), .val (.int ((p1 &&& (2147483647 : Int32)) % (3 : Int32))), .unset, .unset] [(.int ((p1 &&& (2147483647 : Int32)) % (3 : Int32)))])) (fun t_ k_ => XS.iload X0.here hx rfl (hb hby at_60) rfl  k_) ?_
        refine own_st (T' := s₁) (g' := (mkF m 63 #[.val (.int p1), .val (.int p2), .val (.int (0 : Int32)), .val (.int (0 : Int32)), .val (.int ((p1 &&& (2147483647 : Int32)) % (3 : Int32))), .unset, .unset] [(.int (1 : Int32)), (.int ((p1 &&& (2147483647 : Int32)) % (3 : Int32)))])) (fun t_ k_ => XS.iconst X0.here hx rfl (hb hby at_62) k_) ?_
        by_cases hc6 : ((p1 &&& (2147483647 : Int32)) % (3 : Int32)) = (1 : Int32)
        · refine own_st (T' := s₁) (g' := (mkF m 66 #[.val (.int p1), .val (.int p2), .val (.int (0 : Int32)), .val (.int (0 : Int32)), .val (.int ((p1 &&& (2147483647 : Int32)) % (3 : Int32))), .unset, .unset] [])) (fun t_ k_ => XS.icmpNo X0.here hx rfl (hb hby at_63) rfl (teq hc6).2 k_) ?_
          obtain ⟨T7, X7, e7, st7⟩ := getS2 X0 hx hZ hown (host := "") (Or.inl (hw _ (List.mem_of_getElem? (i := 15) rfl))) Via.refl e0 (S_INTERSECTION.ext O0.2) (g := (mkF m 66 #[.val (.int p1), .val (.int p2), .val (.int (0 : Int32)), .val (.int (0 : Int32)), .val (.int ((p1 &&& (2147483647 : Int32)) % (3 : Int32))), .unset, .unset] [])) rfl (hb hby at_66)
          refine own_st (T' := T7) (g' := (mkF m 69 #[.val (.int p1), .val (.int p2), .val (.int (0 : Int32)), .val (.int (0 : Int32)), .val (.int ((p1 &&& (2147483647 : Int32)) % (3 : Int32))), .unset, .unset] [(.ref w_INTERSECTION)])) st7 ?_
          refine own_st (T' := T7) (g' := (mkF m 71 #[.val (.int p1), .val (.int p2), .val (.int (0 : Int32)), .val (.int (0 : Int32)), .val (.int ((p1 &&& (2147483647 : Int32)) % (3 : Int32))), .val (.ref w_INTERSECTION), .unset] [])) (fun t_ k_ => XS.astore X7.here hx rfl (hb hby at_69) rfl rfl (l' := #[.val (.int p1), .val (.int p2), .val (.int (0 : Int32)), .val (.int (0 : Int32)), .val (.int ((p1 &&& (2147483647 : Int32)) % (3 : Int32))), .val (.ref w_INTERSECTION), .unset]) rfl k_) ?_
          refine own_st (T' := T7) (g' := (mkF m 72 #[.val (.int p1), .val (.int p2), .val (.int (0 : Int32)), .val (.int (0 : Int32)), .val (.int ((p1 &&& (2147483647 : Int32)) % (3 : Int32))), .val (.ref w_INTERSECTION), .unset] [(.int (0 : Int32))])) (fun t_ k_ => XS.iloadN X7.here hx rfl (hb hby at_71) rfl  k_) ?_
          refine own_st (T' := T7) (g' := (mkF m 83 #[.val (.int p1), .val (.int p2), .val (.int (0 : Int32)), .val (.int (0 : Int32)), .val (.int ((p1 &&& (2147483647 : Int32)) % (3 : Int32))), .val (.ref w_INTERSECTION), .unset] [])) (fun t_ k_ => XS.ifYes X7.here hx rfl (pc0 := 72) (pc' := 83) rfl (hb hby at_72) rfl ((if0 _ _).trans (teq (rfl : (0 : Int32) = (0 : Int32))).1) (by decide) (by decide) k_) ?_
          refine own_st (T' := T7) (g' := (mkF m 84 #[.val (.int p1), .val (.int p2), .val (.int (0 : Int32)), .val (.int (0 : Int32)), .val (.int ((p1 &&& (2147483647 : Int32)) % (3 : Int32))), .val (.ref w_INTERSECTION), .unset] [(.int (0 : Int32))])) (fun t_ k_ => XS.iconst X7.here hx rfl (hb hby at_83) k_) ?_
          refine own_st (T' := T7) (g' := (mkF m 86 #[.val (.int p1), .val (.int p2), .val (.int (0 : Int32)), .val (.int (0 : Int32)), .val (.int ((p1 &&& (2147483647 : Int32)) % (3 : Int32))), .val (.ref w_INTERSECTION), .val (.int (0 : Int32))] [])) (fun t_ k_ => XS.istore X7.here hx rfl (hb hby at_84) rfl (l' := #[.val (.int p1), .val (.int p2), .val (.int (0 : Int32)), .val (.int (0 : Int32)), .val (.int ((p1 &&& (2147483647 : Int32)) % (3 : Int32))), .val (.ref w_INTERSECTION), .val (.int (0 : Int32))]) rfl k_) ?_
          refine own_st (T' := T7) (g' := (mkF m 109 #[.val (.int p1), .val (.int p2), .val (.int (0 : Int32)), .val (.int (0 : Int32)), .val (.int ((p1 &&& (2147483647 : Int32)) % (3 : Int32))), .val (.ref w_INTERSECTION), .val (.int (0 : Int32))] [])) (fun t_ k_ => XS.goto X7.here hx rfl (pc0 := 86) (pc' := 109) rfl (hb hby at_86) (by decide) (by decide) k_) ?_
          refine own_st (T' := T7) (g' := (mkF m 111 #[.val (.int p1), .val (.int p2), .val (.int (0 : Int32)), .val (.int (0 : Int32)), .val (.int ((p1 &&& (2147483647 : Int32)) % (3 : Int32))), .val (.ref w_INTERSECTION), .val (.int (0 : Int32))] [(.ref w_INTERSECTION)])) (fun t_ k_ => XS.aload X7.here hx rfl (hb hby at_109) rfl rfl  k_) ?_
          refine own_st (T' := T7) (g' := (mkF m 112 #[.val (.int p1), .val (.int p2), .val (.int (0 : Int32)), .val (.int (0 : Int32)), .val (.int ((p1 &&& (2147483647 : Int32)) % (3 : Int32))), .val (.ref w_INTERSECTION), .val (.int (0 : Int32))] [(.int (0 : Int32)), (.ref w_INTERSECTION)])) (fun t_ k_ => XS.iloadN X7.here hx rfl (hb hby at_111) rfl  k_) ?_
          refine own_st (T' := T7) (g' := (mkF m 113 #[.val (.int p1), .val (.int p2), .val (.int (0 : Int32)), .val (.int (0 : Int32)), .val (.int ((p1 &&& (2147483647 : Int32)) % (3 : Int32))), .val (.ref w_INTERSECTION), .val (.int (0 : Int32))] [(.int (0 : Int32)), (.int (0 : Int32)), (.ref w_INTERSECTION)])) (fun t_ k_ => XS.iloadN X7.here hx rfl (hb hby at_112) rfl  k_) ?_
          obtain ⟨cq8, kq8, q8a, q8b, q8c⟩ := isOf hZ e7 (X_INTERSECTION.ext O0.2)
          obtain ⟨_, _, ⟨T8, L8, k8, n8⟩, -, X8, ⟨Lc8, hQ8, l8, y8, z8⟩, st8⟩ := X7.virtualBack hx (y := (⟨"com/example/ixora/ixora/membership/CompositeType", "includes", "(ZZ)Z"⟩ : MethodName)) (z := (⟨"com/example/ixora/ixora/membership/CompositeType", "includes", "(ZZ)Z"⟩ : MethodName)) hown (mvT hZ (hw _ (List.mem_of_getElem? (i := 4) rfl))) (mvT hZ (hw _ (List.mem_of_getElem? (i := 5) rfl))) (notFace_of_selects (args := #[]) (mvT hZ (hw _ (List.mem_of_getElem? (i := 7) rfl)))) (mvT hZ (hw _ (List.mem_of_getElem? (i := 7) rfl))) (mvT hZ (hw _ (List.mem_of_getElem? (i := 6) rfl))) (by decide) (backOf (W := 0) (rm_inc l Z a0 hw [] w_INTERSECTION (0 : Int32) (0 : Int32) (1 : Int32) (0 : Int32) (0 : Int32) h0 n0 O0 F_INTERSECTION_both F_INTERSECTION_leftOnly F_INTERSECTION_rightOnly) hZ (hw _ (List.mem_of_getElem? (i := 8) rfl)) (hw _ (List.mem_of_getElem? (i := 2) rfl)) (by decide) (by decide)) q8a q8c (g := (mkF m 113 #[.val (.int p1), .val (.int p2), .val (.int (0 : Int32)), .val (.int (0 : Int32)), .val (.int ((p1 &&& (2147483647 : Int32)) % (3 : Int32))), .val (.ref w_INTERSECTION), .val (.int (0 : Int32))] [(.int (0 : Int32)), (.int (0 : Int32)), (.ref w_INTERSECTION)])) rfl (by rw [hml]; rfl) (Steps.refl _) (argsL := [(.int (0 : Int32)), (.int (0 : Int32))]) (rest := []) (lenOf pd__ZZ_Z rfl) rfl (by show 2 * 0 + _ ≤ _; exact Nat.le_of_eq rfl) (hb hby at_113) (fun _ _ => ⟨rfl, e7, (by decide : 0 + 0 ≤ _), (by decide : 0 + 0 ≤ _)⟩)
          dsimp only [Pt.U, Pt.locs, Pt.cells, Pt.slots] at X8 l8 y8 z8 st8 hQ8
          subst l8 y8 z8
          obtain ⟨rfl, Nq8, eq8⟩ := hQ8
          have N8 := Fr.app N0 Nq8
          refine own_st (T' := T8) (g' := (mkF m 116 #[.val (.int p1), .val (.int p2), .val (.int (0 : Int32)), .val (.int (0 : Int32)), .val (.int ((p1 &&& (2147483647 : Int32)) % (3 : Int32))), .val (.ref w_INTERSECTION), .val (.int (0 : Int32))] [(.int (own_inc (0 : Int32) (0 : Int32) (1 : Int32) (0 : Int32) (0 : Int32)))])) (fun t_ k_ => st8.trans k_) ?_
          refine own_st (T' := T8) (g' := (mkF m 118 #[.val (.int p1), .val (.int p2), .val (.int (0 : Int32)), .val (.int (0 : Int32)), .val (.int ((p1 &&& (2147483647 : Int32)) % (3 : Int32))), .val (.ref w_INTERSECTION), .val (.int (0 : Int32))] [(.int (0 : Int32)), (.int (own_inc (0 : Int32) (0 : Int32) (1 : Int32) (0 : Int32) (0 : Int32)))])) (fun t_ k_ => XS.iload X8.here hx rfl (hb hby at_116) rfl  k_) ?_
          refine own_st (T' := T8) (g' := (mkF m 121 #[.val (.int p1), .val (.int p2), .val (.int (0 : Int32)), .val (.int (0 : Int32)), .val (.int ((p1 &&& (2147483647 : Int32)) % (3 : Int32))), .val (.ref w_INTERSECTION), .val (.int (0 : Int32))] [])) (fun t_ k_ => XS.icmpNo X8.here hx rfl (hb hby at_118) rfl (teq (by decide : (own_inc (0 : Int32) (0 : Int32) (1 : Int32) (0 : Int32) (0 : Int32)) = (0 : Int32))).2 k_) ?_
          refine own_st (T' := T8) (g' := (mkF m 122 #[.val (.int p1), .val (.int p2), .val (.int (0 : Int32)), .val (.int (0 : Int32)), .val (.int ((p1 &&& (2147483647 : Int32)) % (3 : Int32))), .val (.ref w_INTERSECTION), .val (.int (0 : Int32))] [(.int (1 : Int32))])) (fun t_ k_ => XS.iconst X8.here hx rfl (hb hby at_121) k_) ?_
          refine own_st (T' := T8) (g' := (mkF m 126 #[.val (.int p1), .val (.int p2), .val (.int (0 : Int32)), .val (.int (0 : Int32)), .val (.int ((p1 &&& (2147483647 : Int32)) % (3 : Int32))), .val (.ref w_INTERSECTION), .val (.int (0 : Int32))] [(.int (1 : Int32))])) (fun t_ k_ => XS.goto X8.here hx rfl (pc0 := 122) (pc' := 126) rfl (hb hby at_122) (by decide) (by decide) k_) ?_
          exact own_retN X8 hx (t := .boolean) hret (by simp) hlk (hb hby at_126) (by decide) (by decide) ⟨rfl, N8⟩
        · refine own_st (T' := s₁) (g' := (mkF m 89 #[.val (.int p1), .val (.int p2), .val (.int (0 : Int32)), .val (.int (0 : Int32)), .val (.int ((p1 &&& (2147483647 : Int32)) % (3 : Int32))), .unset, .unset] [])) (fun t_ k_ => XS.icmpYes X0.here hx rfl (pc0 := 63) (pc' := 89) rfl (hb hby at_63) rfl (feq hc6).2 (by decide) (by decide) k_) ?_
          obtain ⟨T9, X9, e9, st9⟩ := getS2 X0 hx hZ hown (host := "") (Or.inl (hw _ (List.mem_of_getElem? (i := 11) rfl))) Via.refl e0 (S_COMPLEMENT.ext O0.2) (g := (mkF m 89 #[.val (.int p1), .val (.int p2), .val (.int (0 : Int32)), .val (.int (0 : Int32)), .val (.int ((p1 &&& (2147483647 : Int32)) % (3 : Int32))), .unset, .unset] [])) rfl (hb hby at_89)
          refine own_st (T' := T9) (g' := (mkF m 92 #[.val (.int p1), .val (.int p2), .val (.int (0 : Int32)), .val (.int (0 : Int32)), .val (.int ((p1 &&& (2147483647 : Int32)) % (3 : Int32))), .unset, .unset] [(.ref w_COMPLEMENT)])) st9 ?_
          refine own_st (T' := T9) (g' := (mkF m 94 #[.val (.int p1), .val (.int p2), .val (.int (0 : Int32)), .val (.int (0 : Int32)), .val (.int ((p1 &&& (2147483647 : Int32)) % (3 : Int32))), .val (.ref w_COMPLEMENT), .unset] [])) (fun t_ k_ => XS.astore X9.here hx rfl (hb hby at_92) rfl rfl (l' := #[.val (.int p1), .val (.int p2), .val (.int (0 : Int32)), .val (.int (0 : Int32)), .val (.int ((p1 &&& (2147483647 : Int32)) % (3 : Int32))), .val (.ref w_COMPLEMENT), .unset]) rfl k_) ?_
          refine own_st (T' := T9) (g' := (mkF m 95 #[.val (.int p1), .val (.int p2), .val (.int (0 : Int32)), .val (.int (0 : Int32)), .val (.int ((p1 &&& (2147483647 : Int32)) % (3 : Int32))), .val (.ref w_COMPLEMENT), .unset] [(.int (0 : Int32))])) (fun t_ k_ => XS.iloadN X9.here hx rfl (hb hby at_94) rfl  k_) ?_
          refine own_st (T' := T9) (g' := (mkF m 106 #[.val (.int p1), .val (.int p2), .val (.int (0 : Int32)), .val (.int (0 : Int32)), .val (.int ((p1 &&& (2147483647 : Int32)) % (3 : Int32))), .val (.ref w_COMPLEMENT), .unset] [])) (fun t_ k_ => XS.ifYes X9.here hx rfl (pc0 := 95) (pc' := 106) rfl (hb hby at_95) rfl ((if0 _ _).trans (teq (rfl : (0 : Int32) = (0 : Int32))).1) (by decide) (by decide) k_) ?_
          refine own_st (T' := T9) (g' := (mkF m 107 #[.val (.int p1), .val (.int p2), .val (.int (0 : Int32)), .val (.int (0 : Int32)), .val (.int ((p1 &&& (2147483647 : Int32)) % (3 : Int32))), .val (.ref w_COMPLEMENT), .unset] [(.int (0 : Int32))])) (fun t_ k_ => XS.iconst X9.here hx rfl (hb hby at_106) k_) ?_
          refine own_st (T' := T9) (g' := (mkF m 109 #[.val (.int p1), .val (.int p2), .val (.int (0 : Int32)), .val (.int (0 : Int32)), .val (.int ((p1 &&& (2147483647 : Int32)) % (3 : Int32))), .val (.ref w_COMPLEMENT), .val (.int (0 : Int32))] [])) (fun t_ k_ => XS.istore X9.here hx rfl (hb hby at_107) rfl (l' := #[.val (.int p1), .val (.int p2), .val (.int (0 : Int32)), .val (.int (0 : Int32)), .val (.int ((p1 &&& (2147483647 : Int32)) % (3 : Int32))), .val (.ref w_COMPLEMENT), .val (.int (0 : Int32))]) rfl k_) ?_
          refine own_st (T' := T9) (g' := (mkF m 111 #[.val (.int p1), .val (.int p2), .val (.int (0 : Int32)), .val (.int (0 : Int32)), .val (.int ((p1 &&& (2147483647 : Int32)) % (3 : Int32))), .val (.ref w_COMPLEMENT), .val (.int (0 : Int32))] [(.ref w_COMPLEMENT)])) (fun t_ k_ => XS.aload X9.here hx rfl (hb hby at_109) rfl rfl  k_) ?_
          refine own_st (T' := T9) (g' := (mkF m 112 #[.val (.int p1), .val (.int p2), .val (.int (0 : Int32)), .val (.int (0 : Int32)), .val (.int ((p1 &&& (2147483647 : Int32)) % (3 : Int32))), .val (.ref w_COMPLEMENT), .val (.int (0 : Int32))] [(.int (0 : Int32)), (.ref w_COMPLEMENT)])) (fun t_ k_ => XS.iloadN X9.here hx rfl (hb hby at_111) rfl  k_) ?_
          refine own_st (T' := T9) (g' := (mkF m 113 #[.val (.int p1), .val (.int p2), .val (.int (0 : Int32)), .val (.int (0 : Int32)), .val (.int ((p1 &&& (2147483647 : Int32)) % (3 : Int32))), .val (.ref w_COMPLEMENT), .val (.int (0 : Int32))] [(.int (0 : Int32)), (.int (0 : Int32)), (.ref w_COMPLEMENT)])) (fun t_ k_ => XS.iloadN X9.here hx rfl (hb hby at_112) rfl  k_) ?_
          obtain ⟨cq10, kq10, q10a, q10b, q10c⟩ := isOf hZ e9 (X_COMPLEMENT.ext O0.2)
          obtain ⟨_, _, ⟨T10, L10, k10, n10⟩, -, X10, ⟨Lc10, hQ10, l10, y10, z10⟩, st10⟩ := X9.virtualBack hx (y := (⟨"com/example/ixora/ixora/membership/CompositeType", "includes", "(ZZ)Z"⟩ : MethodName)) (z := (⟨"com/example/ixora/ixora/membership/CompositeType", "includes", "(ZZ)Z"⟩ : MethodName)) hown (mvT hZ (hw _ (List.mem_of_getElem? (i := 4) rfl))) (mvT hZ (hw _ (List.mem_of_getElem? (i := 5) rfl))) (notFace_of_selects (args := #[]) (mvT hZ (hw _ (List.mem_of_getElem? (i := 7) rfl)))) (mvT hZ (hw _ (List.mem_of_getElem? (i := 7) rfl))) (mvT hZ (hw _ (List.mem_of_getElem? (i := 6) rfl))) (by decide) (backOf (W := 0) (rm_inc l Z a0 hw [] w_COMPLEMENT (0 : Int32) (0 : Int32) (0 : Int32) (1 : Int32) (0 : Int32) h0 n0 O0 F_COMPLEMENT_both F_COMPLEMENT_leftOnly F_COMPLEMENT_rightOnly) hZ (hw _ (List.mem_of_getElem? (i := 8) rfl)) (hw _ (List.mem_of_getElem? (i := 2) rfl)) (by decide) (by decide)) q10a q10c (g := (mkF m 113 #[.val (.int p1), .val (.int p2), .val (.int (0 : Int32)), .val (.int (0 : Int32)), .val (.int ((p1 &&& (2147483647 : Int32)) % (3 : Int32))), .val (.ref w_COMPLEMENT), .val (.int (0 : Int32))] [(.int (0 : Int32)), (.int (0 : Int32)), (.ref w_COMPLEMENT)])) rfl (by rw [hml]; rfl) (Steps.refl _) (argsL := [(.int (0 : Int32)), (.int (0 : Int32))]) (rest := []) (lenOf pd__ZZ_Z rfl) rfl (by show 2 * 0 + _ ≤ _; exact Nat.le_of_eq rfl) (hb hby at_113) (fun _ _ => ⟨rfl, e9, (by decide : 0 + 0 ≤ _), (by decide : 0 + 0 ≤ _)⟩)
          dsimp only [Pt.U, Pt.locs, Pt.cells, Pt.slots] at X10 l10 y10 z10 st10 hQ10
          subst l10 y10 z10
          obtain ⟨rfl, Nq10, eq10⟩ := hQ10
          have N10 := Fr.app N0 Nq10
          refine own_st (T' := T10) (g' := (mkF m 116 #[.val (.int p1), .val (.int p2), .val (.int (0 : Int32)), .val (.int (0 : Int32)), .val (.int ((p1 &&& (2147483647 : Int32)) % (3 : Int32))), .val (.ref w_COMPLEMENT), .val (.int (0 : Int32))] [(.int (own_inc (0 : Int32) (0 : Int32) (0 : Int32) (1 : Int32) (0 : Int32)))])) (fun t_ k_ => st10.trans k_) ?_
          refine own_st (T' := T10) (g' := (mkF m 118 #[.val (.int p1), .val (.int p2), .val (.int (0 : Int32)), .val (.int (0 : Int32)), .val (.int ((p1 &&& (2147483647 : Int32)) % (3 : Int32))), .val (.ref w_COMPLEMENT), .val (.int (0 : Int32))] [(.int (0 : Int32)), (.int (own_inc (0 : Int32) (0 : Int32) (0 : Int32) (1 : Int32) (0 : Int32)))])) (fun t_ k_ => XS.iload X10.here hx rfl (hb hby at_116) rfl  k_) ?_
          refine own_st (T' := T10) (g' := (mkF m 121 #[.val (.int p1), .val (.int p2), .val (.int (0 : Int32)), .val (.int (0 : Int32)), .val (.int ((p1 &&& (2147483647 : Int32)) % (3 : Int32))), .val (.ref w_COMPLEMENT), .val (.int (0 : Int32))] [])) (fun t_ k_ => XS.icmpNo X10.here hx rfl (hb hby at_118) rfl (teq (by decide : (own_inc (0 : Int32) (0 : Int32) (0 : Int32) (1 : Int32) (0 : Int32)) = (0 : Int32))).2 k_) ?_
          refine own_st (T' := T10) (g' := (mkF m 122 #[.val (.int p1), .val (.int p2), .val (.int (0 : Int32)), .val (.int (0 : Int32)), .val (.int ((p1 &&& (2147483647 : Int32)) % (3 : Int32))), .val (.ref w_COMPLEMENT), .val (.int (0 : Int32))] [(.int (1 : Int32))])) (fun t_ k_ => XS.iconst X10.here hx rfl (hb hby at_121) k_) ?_
          refine own_st (T' := T10) (g' := (mkF m 126 #[.val (.int p1), .val (.int p2), .val (.int (0 : Int32)), .val (.int (0 : Int32)), .val (.int ((p1 &&& (2147483647 : Int32)) % (3 : Int32))), .val (.ref w_COMPLEMENT), .val (.int (0 : Int32))] [(.int (1 : Int32))])) (fun t_ k_ => XS.goto X10.here hx rfl (pc0 := 122) (pc' := 126) rfl (hb hby at_122) (by decide) (by decide) k_) ?_
          exact own_retN X10 hx (t := .boolean) hret (by simp) hlk (hb hby at_126) (by decide) (by decide) ⟨rfl, N10⟩
    · refine own_st (T' := s₁) (g' := (mkF m 18 #[.val (.int p1), .val (.int p2), .val (.int (0 : Int32)), .unset, .unset, .unset, .unset] [])) (fun t_ k_ => XS.ifNo X0.here hx rfl (hb hby at_15) rfl ((if0 _ _).trans (feq hc2).1) k_) ?_
      refine own_st (T' := s₁) (g' := (mkF m 19 #[.val (.int p1), .val (.int p2), .val (.int (0 : Int32)), .unset, .unset, .unset, .unset] [(.int (1 : Int32))])) (fun t_ k_ => XS.iconst X0.here hx rfl (hb hby at_18) k_) ?_
      refine own_st (T' := s₁) (g' := (mkF m 23 #[.val (.int p1), .val (.int p2), .val (.int (0 : Int32)), .unset, .unset, .unset, .unset] [(.int (1 : Int32))])) (fun t_ k_ => XS.goto X0.here hx rfl (pc0 := 19) (pc' := 23) rfl (hb hby at_19) (by decide) (by decide) k_) ?_
      refine own_st (T' := s₁) (g' := (mkF m 24 #[.val (.int p1), .val (.int p2), .val (.int (0 : Int32)), .val (.int (1 : Int32)), .unset, .unset, .unset] [])) (fun t_ k_ => XS.istoreN X0.here hx rfl (hb hby at_23) rfl (l' := #[.val (.int p1), .val (.int p2), .val (.int (0 : Int32)), .val (.int (1 : Int32)), .unset, .unset, .unset]) rfl k_) ?_
      refine own_st (T' := s₁) (g' := (mkF m 25 #[.val (.int p1), .val (.int p2), .val (.int (0 : Int32)), .val (.int (1 : Int32)), .unset, .unset, .unset] [(.int p1)])) (fun t_ k_ => XS.iloadN X0.here hx rfl (hb hby at_24) rfl  k_) ?_
      refine own_st (T' := s₁) (g' := (mkF m 27 #[.val (.int p1), .val (.int p2), .val (.int (0 : Int32)), .val (.int (1 : Int32)), .unset, .unset, .unset] [(.int (2147483647 : Int32)), (.int p1)])) (X0.ldcInt hx hown (mvT hZ (hw _ (List.mem_of_getElem? (i := 0) rfl))) (g := (mkF m 25 #[.val (.int p1), .val (.int p2), .val (.int (0 : Int32)), .val (.int (1 : Int32)), .unset, .unset, .unset] [(.int p1)])) rfl (hb hby at_25)) ?_
      refine own_st (T' := s₁) (g' := (mkF m 28 #[.val (.int p1), .val (.int p2), .val (.int (0 : Int32)), .val (.int (1 : Int32)), .unset, .unset, .unset] [(.int (p1 &&& (2147483647 : Int32)))])) (fun t_ k_ => XS.iand X0.here hx rfl (hb hby at_27) rfl k_) ?_
      refine own_st (T' := s₁) (g' := (mkF m 29 #[.val (.int p1), .val (.int p2), .val (.int (0 : Int32)), .val (.int (1 : Int32)), .unset, .unset, .unset] [(.int (3 : Int32)), (.int (p1 &&& (2147483647 : Int32)))])) (fun t_ k_ => XS.iconst X0.here hx rfl (hb hby at_28) k_) ?_
      refine own_st (T' := s₁) (g' := (mkF m 30 #[.val (.int p1), .val (.int p2), .val (.int (0 : Int32)), .val (.int (1 : Int32)), .unset, .unset, .unset] [(.int ((p1 &&& (2147483647 : Int32)) % (3 : Int32)))])) (fun t_ k_ => iremM X0 hx rfl (hb hby at_29) rfl (by decide) k_) ?_
      refine own_st (T' := s₁) (g' := (mkF m 32 #[.val (.int p1), .val (.int p2), .val (.int (0 : Int32)), .val (.int (1 : Int32)), .val (.int ((p1 &&& (2147483647 : Int32)) % (3 : Int32))), .unset, .unset] [])) (fun t_ k_ => XS.istore X0.here hx rfl (hb hby at_30) rfl (l' := #[.val (.int p1), .val (.int p2), .val (.int (0 : Int32)), .val (.int (1 : Int32)), .val (.int ((p1 &&& (2147483647 : Int32)) % (3 : Int32))), .unset, .unset]) rfl k_) ?_
      refine own_st (T' := s₁) (g' := (mkF m 34 #[.val (.int p1), .val (.int p2), .val (.int (0 : Int32)), .val (.int (1 : Int32)), .val (.int ((p1 &&& (2147483647 : Int32)) % (3 : Int32))), .unset, .unset] [(.int ((p1 &&& (2147483647 : Int32)) % (3 : Int32)))])) (fun t_ k_ => XS.iload X0.here hx rfl (hb hby at_32) rfl  k_) ?_
      by_cases hc11 : ((p1 &&& (2147483647 : Int32)) % (3 : Int32)) = (0 : Int32)
      · refine own_st (T' := s₁) (g' := (mkF m 37 #[.val (.int p1), .val (.int p2), .val (.int (0 : Int32)), .val (.int (1 : Int32)), .val (.int ((p1 &&& (2147483647 : Int32)) % (3 : Int32))), .unset, .unset] [])) (fun t_ k_ => XS.ifNo X0.here hx rfl (hb hby at_34) rfl ((if0 _ _).trans (teq hc11).2) k_) ?_
        obtain ⟨T12, X12, e12, st12⟩ := getS2 X0 hx hZ hown (host := "") (Or.inl (hw _ (List.mem_of_getElem? (i := 1) rfl))) Via.refl e0 (S_UNION.ext O0.2) (g := (mkF m 37 #[.val (.int p1), .val (.int p2), .val (.int (0 : Int32)), .val (.int (1 : Int32)), .val (.int ((p1 &&& (2147483647 : Int32)) % (3 : Int32))), .unset, .unset] [])) rfl (hb hby at_37)
        refine own_st (T' := T12) (g' := (mkF m 40 #[.val (.int p1), .val (.int p2), .val (.int (0 : Int32)), .val (.int (1 : Int32)), .val (.int ((p1 &&& (2147483647 : Int32)) % (3 : Int32))), .unset, .unset] [(.ref w_UNION)])) st12 ?_
        refine own_st (T' := T12) (g' := (mkF m 42 #[.val (.int p1), .val (.int p2), .val (.int (0 : Int32)), .val (.int (1 : Int32)), .val (.int ((p1 &&& (2147483647 : Int32)) % (3 : Int32))), .val (.ref w_UNION), .unset] [])) (fun t_ k_ => XS.astore X12.here hx rfl (hb hby at_40) rfl rfl (l' := #[.val (.int p1), .val (.int p2), .val (.int (0 : Int32)), .val (.int (1 : Int32)), .val (.int ((p1 &&& (2147483647 : Int32)) % (3 : Int32))), .val (.ref w_UNION), .unset]) rfl k_) ?_
        refine own_st (T' := T12) (g' := (mkF m 43 #[.val (.int p1), .val (.int p2), .val (.int (0 : Int32)), .val (.int (1 : Int32)), .val (.int ((p1 &&& (2147483647 : Int32)) % (3 : Int32))), .val (.ref w_UNION), .unset] [(.int (0 : Int32))])) (fun t_ k_ => XS.iloadN X12.here hx rfl (hb hby at_42) rfl  k_) ?_
        refine own_st (T' := T12) (g' := (mkF m 46 #[.val (.int p1), .val (.int p2), .val (.int (0 : Int32)), .val (.int (1 : Int32)), .val (.int ((p1 &&& (2147483647 : Int32)) % (3 : Int32))), .val (.ref w_UNION), .unset] [])) (fun t_ k_ => XS.ifNo X12.here hx rfl (hb hby at_43) rfl ((if0 _ _).trans (teq (rfl : (0 : Int32) = (0 : Int32))).2) k_) ?_
        refine own_st (T' := T12) (g' := (mkF m 47 #[.val (.int p1), .val (.int p2), .val (.int (0 : Int32)), .val (.int (1 : Int32)), .val (.int ((p1 &&& (2147483647 : Int32)) % (3 : Int32))), .val (.ref w_UNION), .unset] [(.int (1 : Int32))])) (fun t_ k_ => XS.iloadN X12.here hx rfl (hb hby at_46) rfl  k_) ?_
        refine own_st (T' := T12) (g' := (mkF m 50 #[.val (.int p1), .val (.int p2), .val (.int (0 : Int32)), .val (.int (1 : Int32)), .val (.int ((p1 &&& (2147483647 : Int32)) % (3 : Int32))), .val (.ref w_UNION), .unset] [])) (fun t_ k_ => XS.ifNo X12.here hx rfl (hb hby at_47) rfl ((if0 _ _).trans (feq (by decide : ¬ ((1 : Int32) = (0 : Int32)))).1) k_) ?_
        refine own_st (T' := T12) (g' := (mkF m 51 #[.val (.int p1), .val (.int p2), .val (.int (0 : Int32)), .val (.int (1 : Int32)), .val (.int ((p1 &&& (2147483647 : Int32)) % (3 : Int32))), .val (.ref w_UNION), .unset] [(.int (1 : Int32))])) (fun t_ k_ => XS.iconst X12.here hx rfl (hb hby at_50) k_) ?_
        refine own_st (T' := T12) (g' := (mkF m 55 #[.val (.int p1), .val (.int p2), .val (.int (0 : Int32)), .val (.int (1 : Int32)), .val (.int ((p1 &&& (2147483647 : Int32)) % (3 : Int32))), .val (.ref w_UNION), .unset] [(.int (1 : Int32))])) (fun t_ k_ => XS.goto X12.here hx rfl (pc0 := 51) (pc' := 55) rfl (hb hby at_51) (by decide) (by decide) k_) ?_
        refine own_st (T' := T12) (g' := (mkF m 57 #[.val (.int p1), .val (.int p2), .val (.int (0 : Int32)), .val (.int (1 : Int32)), .val (.int ((p1 &&& (2147483647 : Int32)) % (3 : Int32))), .val (.ref w_UNION), .val (.int (1 : Int32))] [])) (fun t_ k_ => XS.istore X12.here hx rfl (hb hby at_55) rfl (l' := #[.val (.int p1), .val (.int p2), .val (.int (0 : Int32)), .val (.int (1 : Int32)), .val (.int ((p1 &&& (2147483647 : Int32)) % (3 : Int32))), .val (.ref w_UNION), .val (.int (1 : Int32))]) rfl k_) ?_
        refine own_st (T' := T12) (g' := (mkF m 109 #[.val (.int p1), .val (.int p2), .val (.int (0 : Int32)), .val (.int (1 : Int32)), .val (.int ((p1 &&& (2147483647 : Int32)) % (3 : Int32))), .val (.ref w_UNION), .val (.int (1 : Int32))] [])) (fun t_ k_ => XS.goto X12.here hx rfl (pc0 := 57) (pc' := 109) rfl (hb hby at_57) (by decide) (by decide) k_) ?_
        refine own_st (T' := T12) (g' := (mkF m 111 #[.val (.int p1), .val (.int p2), .val (.int (0 : Int32)), .val (.int (1 : Int32)), .val (.int ((p1 &&& (2147483647 : Int32)) % (3 : Int32))), .val (.ref w_UNION), .val (.int (1 : Int32))] [(.ref w_UNION)])) (fun t_ k_ => XS.aload X12.here hx rfl (hb hby at_109) rfl rfl  k_) ?_
        refine own_st (T' := T12) (g' := (mkF m 112 #[.val (.int p1), .val (.int p2), .val (.int (0 : Int32)), .val (.int (1 : Int32)), .val (.int ((p1 &&& (2147483647 : Int32)) % (3 : Int32))), .val (.ref w_UNION), .val (.int (1 : Int32))] [(.int (0 : Int32)), (.ref w_UNION)])) (fun t_ k_ => XS.iloadN X12.here hx rfl (hb hby at_111) rfl  k_) ?_
        refine own_st (T' := T12) (g' := (mkF m 113 #[.val (.int p1), .val (.int p2), .val (.int (0 : Int32)), .val (.int (1 : Int32)), .val (.int ((p1 &&& (2147483647 : Int32)) % (3 : Int32))), .val (.ref w_UNION), .val (.int (1 : Int32))] [(.int (1 : Int32)), (.int (0 : Int32)), (.ref w_UNION)])) (fun t_ k_ => XS.iloadN X12.here hx rfl (hb hby at_112) rfl  k_) ?_
        obtain ⟨cq13, kq13, q13a, q13b, q13c⟩ := isOf hZ e12 (X_UNION.ext O0.2)
        obtain ⟨_, _, ⟨T13, L13, k13, n13⟩, -, X13, ⟨Lc13, hQ13, l13, y13, z13⟩, st13⟩ := X12.virtualBack hx (y := (⟨"com/example/ixora/ixora/membership/CompositeType", "includes", "(ZZ)Z"⟩ : MethodName)) (z := (⟨"com/example/ixora/ixora/membership/CompositeType", "includes", "(ZZ)Z"⟩ : MethodName)) hown (mvT hZ (hw _ (List.mem_of_getElem? (i := 4) rfl))) (mvT hZ (hw _ (List.mem_of_getElem? (i := 5) rfl))) (notFace_of_selects (args := #[]) (mvT hZ (hw _ (List.mem_of_getElem? (i := 7) rfl)))) (mvT hZ (hw _ (List.mem_of_getElem? (i := 7) rfl))) (mvT hZ (hw _ (List.mem_of_getElem? (i := 6) rfl))) (by decide) (backOf (W := 0) (rm_inc l Z a0 hw [] w_UNION (0 : Int32) (1 : Int32) (1 : Int32) (1 : Int32) (1 : Int32) h0 n0 O0 F_UNION_both F_UNION_leftOnly F_UNION_rightOnly) hZ (hw _ (List.mem_of_getElem? (i := 8) rfl)) (hw _ (List.mem_of_getElem? (i := 2) rfl)) (by decide) (by decide)) q13a q13c (g := (mkF m 113 #[.val (.int p1), .val (.int p2), .val (.int (0 : Int32)), .val (.int (1 : Int32)), .val (.int ((p1 &&& (2147483647 : Int32)) % (3 : Int32))), .val (.ref w_UNION), .val (.int (1 : Int32))] [(.int (1 : Int32)), (.int (0 : Int32)), (.ref w_UNION)])) rfl (by rw [hml]; rfl) (Steps.refl _) (argsL := [(.int (0 : Int32)), (.int (1 : Int32))]) (rest := []) (lenOf pd__ZZ_Z rfl) rfl (by show 2 * 0 + _ ≤ _; exact Nat.le_of_eq rfl) (hb hby at_113) (fun _ _ => ⟨rfl, e12, (by decide : 0 + 0 ≤ _), (by decide : 0 + 0 ≤ _)⟩)
        dsimp only [Pt.U, Pt.locs, Pt.cells, Pt.slots] at X13 l13 y13 z13 st13 hQ13
        subst l13 y13 z13
        obtain ⟨rfl, Nq13, eq13⟩ := hQ13
        have N13 := Fr.app N0 Nq13
        refine own_st (T' := T13) (g' := (mkF m 116 #[.val (.int p1), .val (.int p2), .val (.int (0 : Int32)), .val (.int (1 : Int32)), .val (.int ((p1 &&& (2147483647 : Int32)) % (3 : Int32))), .val (.ref w_UNION), .val (.int (1 : Int32))] [(.int (own_inc (0 : Int32) (1 : Int32) (1 : Int32) (1 : Int32) (1 : Int32)))])) (fun t_ k_ => st13.trans k_) ?_
        refine own_st (T' := T13) (g' := (mkF m 118 #[.val (.int p1), .val (.int p2), .val (.int (0 : Int32)), .val (.int (1 : Int32)), .val (.int ((p1 &&& (2147483647 : Int32)) % (3 : Int32))), .val (.ref w_UNION), .val (.int (1 : Int32))] [(.int (1 : Int32)), (.int (own_inc (0 : Int32) (1 : Int32) (1 : Int32) (1 : Int32) (1 : Int32)))])) (fun t_ k_ => XS.iload X13.here hx rfl (hb hby at_116) rfl  k_) ?_
        refine own_st (T' := T13) (g' := (mkF m 121 #[.val (.int p1), .val (.int p2), .val (.int (0 : Int32)), .val (.int (1 : Int32)), .val (.int ((p1 &&& (2147483647 : Int32)) % (3 : Int32))), .val (.ref w_UNION), .val (.int (1 : Int32))] [])) (fun t_ k_ => XS.icmpNo X13.here hx rfl (hb hby at_118) rfl (teq (by decide : (own_inc (0 : Int32) (1 : Int32) (1 : Int32) (1 : Int32) (1 : Int32)) = (1 : Int32))).2 k_) ?_
        refine own_st (T' := T13) (g' := (mkF m 122 #[.val (.int p1), .val (.int p2), .val (.int (0 : Int32)), .val (.int (1 : Int32)), .val (.int ((p1 &&& (2147483647 : Int32)) % (3 : Int32))), .val (.ref w_UNION), .val (.int (1 : Int32))] [(.int (1 : Int32))])) (fun t_ k_ => XS.iconst X13.here hx rfl (hb hby at_121) k_) ?_
        refine own_st (T' := T13) (g' := (mkF m 126 #[.val (.int p1), .val (.int p2), .val (.int (0 : Int32)), .val (.int (1 : Int32)), .val (.int ((p1 &&& (2147483647 : Int32)) % (3 : Int32))), .val (.ref w_UNION), .val (.int (1 : Int32))] [(.int (1 : Int32))])) (fun t_ k_ => XS.goto X13.here hx rfl (pc0 := 122) (pc' := 126) rfl (hb hby at_122) (by decide) (by decide) k_) ?_
        exact own_retN X13 hx (t := .boolean) hret (by simp) hlk (hb hby at_126) (by decide) (by decide) ⟨rfl, N13⟩
      · refine own_st (T' := s₁) (g' := (mkF m 60 #[.val (.int p1), .val (.int p2), .val (.int (0 : Int32)), .val (.int (1 : Int32)), .val (.int ((p1 &&& (2147483647 : Int32)) % (3 : Int32))), .unset, .unset] [])) (fun t_ k_ => XS.ifYes X0.here hx rfl (pc0 := 34) (pc' := 60) rfl (hb hby at_34) rfl ((if0 _ _).trans (feq hc11).2) (by decide) (by decide) k_) ?_
        refine own_st (T' := s₁) (g' := (mkF m 62 #[.val (.int p1), .val (.int p2), .val (.int (0 : Int32)), .val (.int (1 : Int32)), .val (.int ((p1 &&& (2147483647 : Int32)) % (3 : Int32))), .unset, .unset] [(.int ((p1 &&& (2147483647 : Int32)) % (3 : Int32)))])) (fun t_ k_ => XS.iload X0.here hx rfl (hb hby at_60) rfl  k_) ?_
        refine own_st (T' := s₁) (g' := (mkF m 63 #[.val (.int p1), .val (.int p2), .val (.int (0 : Int32)), .val (.int (1 : Int32)), .val (.int ((p1 &&& (2147483647 : Int32)) % (3 : Int32))), .unset, .unset] [(.int (1 : Int32)), (.int ((p1 &&& (2147483647 : Int32)) % (3 : Int32)))])) (fun t_ k_ => XS.iconst X0.here hx rfl (hb hby at_62) k_) ?_
        by_cases hc14 : ((p1 &&& (2147483647 : Int32)) % (3 : Int32)) = (1 : Int32)
        · refine own_st (T' := s₁) (g' := (mkF m 66 #[.val (.int p1), .val (.int p2), .val (.int (0 : Int32)), .val (.int (1 : Int32)), .val (.int ((p1 &&& (2147483647 : Int32)) % (3 : Int32))), .unset, .unset] [])) (fun t_ k_ => XS.icmpNo X0.here hx rfl (hb hby at_63) rfl (teq hc14).2 k_) ?_
          obtain ⟨T15, X15, e15, st15⟩ := getS2 X0 hx hZ hown (host := "") (Or.inl (hw _ (List.mem_of_getElem? (i := 15) rfl))) Via.refl e0 (S_INTERSECTION.ext O0.2) (g := (mkF m 66 #[.val (.int p1), .val (.int p2), .val (.int (0 : Int32)), .val (.int (1 : Int32)), .val (.int ((p1 &&& (2147483647 : Int32)) % (3 : Int32))), .unset, .unset] [])) rfl (hb hby at_66)
          refine own_st (T' := T15) (g' := (mkF m 69 #[.val (.int p1), .val (.int p2), .val (.int (0 : Int32)), .val (.int (1 : Int32)), .val (.int ((p1 &&& (2147483647 : Int32)) % (3 : Int32))), .unset, .unset] [(.ref w_INTERSECTION)])) st15 ?_
          refine own_st (T' := T15) (g' := (mkF m 71 #[.val (.int p1), .val (.int p2), .val (.int (0 : Int32)), .val (.int (1 : Int32)), .val (.int ((p1 &&& (2147483647 : Int32)) % (3 : Int32))), .val (.ref w_INTERSECTION), .unset] [])) (fun t_ k_ => XS.astore X15.here hx rfl (hb hby at_69) rfl rfl (l' := #[.val (.int p1), .val (.int p2), .val (.int (0 : Int32)), .val (.int (1 : Int32)), .val (.int ((p1 &&& (2147483647 : Int32)) % (3 : Int32))), .val (.ref w_INTERSECTION), .unset]) rfl k_) ?_
          refine own_st (T' := T15) (g' := (mkF m 72 #[.val (.int p1), .val (.int p2), .val (.int (0 : Int32)), .val (.int (1 : Int32)), .val (.int ((p1 &&& (2147483647 : Int32)) % (3 : Int32))), .val (.ref w_INTERSECTION), .unset] [(.int (0 : Int32))])) (fun t_ k_ => XS.iloadN X15.here hx rfl (hb hby at_71) rfl  k_) ?_
          refine own_st (T' := T15) (g' := (mkF m 83 #[.val (.int p1), .val (.int p2), .val (.int (0 : Int32)), .val (.int (1 : Int32)), .val (.int ((p1 &&& (2147483647 : Int32)) % (3 : Int32))), .val (.ref w_INTERSECTION), .unset] [])) (fun t_ k_ => XS.ifYes X15.here hx rfl (pc0 := 72) (pc' := 83) rfl (hb hby at_72) rfl ((if0 _ _).trans (teq (rfl : (0 : Int32) = (0 : Int32))).1) (by decide) (by decide) k_) ?_
          refine own_st (T' := T15) (g' := (mkF m 84 #[.val (.int p1), .val (.int p2), .val (.int (0 : Int32)), .val (.int (1 : Int32)), .val (.int ((p1 &&& (2147483647 : Int32)) % (3 : Int32))), .val (.ref w_INTERSECTION), .unset] [(.int (0 : Int32))])) (fun t_ k_ => XS.iconst X15.here hx rfl (hb hby at_83) k_) ?_
          refine own_st (T' := T15) (g' := (mkF m 86 #[.val (.int p1), .val (.int p2), .val (.int (0 : Int32)), .val (.int (1 : Int32)), .val (.int ((p1 &&& (2147483647 : Int32)) % (3 : Int32))), .val (.ref w_INTERSECTION), .val (.int (0 : Int32))] [])) (fun t_ k_ => XS.istore X15.here hx rfl (hb hby at_84) rfl (l' := #[.val (.int p1), .val (.int p2), .val (.int (0 : Int32)), .val (.int (1 : Int32)), .val (.int ((p1 &&& (2147483647 : Int32)) % (3 : Int32))), .val (.ref w_INTERSECTION), .val (.int (0 : Int32))]) rfl k_) ?_
          refine own_st (T' := T15) (g' := (mkF m 109 #[.val (.int p1), .val (.int p2), .val (.int (0 : Int32)), .val (.int (1 : Int32)), .val (.int ((p1 &&& (2147483647 : Int32)) % (3 : Int32))), .val (.ref w_INTERSECTION), .val (.int (0 : Int32))] [])) (fun t_ k_ => XS.goto X15.here hx rfl (pc0 := 86) (pc' := 109) rfl (hb hby at_86) (by decide) (by decide) k_) ?_
          refine own_st (T' := T15) (g' := (mkF m 111 #[.val (.int p1), .val (.int p2), .val (.int (0 : Int32)), .val (.int (1 : Int32)), .val (.int ((p1 &&& (2147483647 : Int32)) % (3 : Int32))), .val (.ref w_INTERSECTION), .val (.int (0 : Int32))] [(.ref w_INTERSECTION)])) (fun t_ k_ => XS.aload X15.here hx rfl (hb hby at_109) rfl rfl  k_) ?_
          refine own_st (T' := T15) (g' := (mkF m 112 #[.val (.int p1), .val (.int p2), .val (.int (0 : Int32)), .val (.int (1 : Int32)), .val (.int ((p1 &&& (2147483647 : Int32)) % (3 : Int32))), .val (.ref w_INTERSECTION), .val (.int (0 : Int32))] [(.int (0 : Int32)), (.ref w_INTERSECTION)])) (fun t_ k_ => XS.iloadN X15.here hx rfl (hb hby at_111) rfl  k_) ?_
          refine own_st (T' := T15) (g' := (mkF m 113 #[.val (.int p1), .val (.int p2), .val (.int (0 : Int32)), .val (.int (1 : Int32)), .val (.int ((p1 &&& (2147483647 : Int32)) % (3 : Int32))), .val (.ref w_INTERSECTION), .val (.int (0 : Int32))] [(.int (1 : Int32)), (.int (0 : Int32)), (.ref w_INTERSECTION)])) (fun t_ k_ => XS.iloadN X15.here hx rfl (hb hby at_112) rfl  k_) ?_
          obtain ⟨cq16, kq16, q16a, q16b, q16c⟩ := isOf hZ e15 (X_INTERSECTION.ext O0.2)
          obtain ⟨_, _, ⟨T16, L16, k16, n16⟩, -, X16, ⟨Lc16, hQ16, l16, y16, z16⟩, st16⟩ := X15.virtualBack hx (y := (⟨"com/example/ixora/ixora/membership/CompositeType", "includes", "(ZZ)Z"⟩ : MethodName)) (z := (⟨"com/example/ixora/ixora/membership/CompositeType", "includes", "(ZZ)Z"⟩ : MethodName)) hown (mvT hZ (hw _ (List.mem_of_getElem? (i := 4) rfl))) (mvT hZ (hw _ (List.mem_of_getElem? (i := 5) rfl))) (notFace_of_selects (args := #[]) (mvT hZ (hw _ (List.mem_of_getElem? (i := 7) rfl)))) (mvT hZ (hw _ (List.mem_of_getElem? (i := 7) rfl))) (mvT hZ (hw _ (List.mem_of_getElem? (i := 6) rfl))) (by decide) (backOf (W := 0) (rm_inc l Z a0 hw [] w_INTERSECTION (0 : Int32) (1 : Int32) (1 : Int32) (0 : Int32) (0 : Int32) h0 n0 O0 F_INTERSECTION_both F_INTERSECTION_leftOnly F_INTERSECTION_rightOnly) hZ (hw _ (List.mem_of_getElem? (i := 8) rfl)) (hw _ (List.mem_of_getElem? (i := 2) rfl)) (by decide) (by decide)) q16a q16c (g := (mkF m 113 #[.val (.int p1), .val (.int p2), .val (.int (0 : Int32)), .val (.int (1 : Int32)), .val (.int ((p1 &&& (2147483647 : Int32)) % (3 : Int32))), .val (.ref w_INTERSECTION), .val (.int (0 : Int32))] [(.int (1 : Int32)), (.int (0 : Int32)), (.ref w_INTERSECTION)])) rfl (by rw [hml]; rfl) (Steps.refl _) (argsL := [(.int (0 : Int32)), (.int (1 : Int32))]) (rest := []) (lenOf pd__ZZ_Z rfl) rfl (by show 2 * 0 + _ ≤ _; exact Nat.le_of_eq rfl) (hb hby at_113) (fun _ _ => ⟨rfl, e15, (by decide : 0 + 0 ≤ _), (by decide : 0 + 0 ≤ _)⟩)
          dsimp only [Pt.U, Pt.locs, Pt.cells, Pt.slots] at X16 l16 y16 z16 st16 hQ16
          subst l16 y16 z16
          obtain ⟨rfl, Nq16, eq16⟩ := hQ16
          have N16 := Fr.app N0 Nq16
          refine own_st (T' := T16) (g' := (mkF m 116 #[.val (.int p1), .val (.int p2), .val (.int (0 : Int32)), .val (.int (1 : Int32)), .val (.int ((p1 &&& (2147483647 : Int32)) % (3 : Int32))), .val (.ref w_INTERSECTION), .val (.int (0 : Int32))] [(.int (own_inc (0 : Int32) (1 : Int32) (1 : Int32) (0 : Int32) (0 : Int32)))])) (fun t_ k_ => st16.trans k_) ?_
          refine own_st (T' := T16) (g' := (mkF m 118 #[.val (.int p1), .val (.int p2), .val (.int (0 : Int32)), .val (.int (1 : Int32)), .val (.int ((p1 &&& (2147483647 : Int32)) % (3 : Int32))), .val (.ref w_INTERSECTION), .val (.int (0 : Int32))] [(.int (0 : Int32)), (.int (own_inc (0 : Int32) (1 : Int32) (1 : Int32) (0 : Int32) (0 : Int32)))])) (fun t_ k_ => XS.iload X16.here hx rfl (hb hby at_116) rfl  k_) ?_
          refine own_st (T' := T16) (g' := (mkF m 121 #[.val (.int p1), .val (.int p2), .val (.int (0 : Int32)), .val (.int (1 : Int32)), .val (.int ((p1 &&& (2147483647 : Int32)) % (3 : Int32))), .val (.ref w_INTERSECTION), .val (.int (0 : Int32))] [])) (fun t_ k_ => XS.icmpNo X16.here hx rfl (hb hby at_118) rfl (teq (by decide : (own_inc (0 : Int32) (1 : Int32) (1 : Int32) (0 : Int32) (0 : Int32)) = (0 : Int32))).2 k_) ?_
          refine own_st (T' := T16) (g' := (mkF m 122 #[.val (.int p1), .val (.int p2), .val (.int (0 : Int32)), .val (.int (1 : Int32)), .val (.int ((p1 &&& (2147483647 : Int32)) % (3 : Int32))), .val (.ref w_INTERSECTION), .val (.int (0 : Int32))] [(.int (1 : Int32))])) (fun t_ k_ => XS.iconst X16.here hx rfl (hb hby at_121) k_) ?_
          refine own_st (T' := T16) (g' := (mkF m 126 #[.val (.int p1), .val (.int p2), .val (.int (0 : Int32)), .val (.int (1 : Int32)), .val (.int ((p1 &&& (2147483647 : Int32)) % (3 : Int32))), .val (.ref w_INTERSECTION), .val (.int (0 : Int32))] [(.int (1 : Int32))])) (fun t_ k_ => XS.goto X16.here hx rfl (pc0 := 122) (pc' := 126) rfl (hb hby at_122) (by decide) (by decide) k_) ?_
          exact own_retN X16 hx (t := .boolean) hret (by simp) hlk (hb hby at_126) (by decide) (by decide) ⟨rfl, N16⟩
        · refine own_st (T' := s₁) (g' := (mkF m 89 #[.val (.int p1), .val (.int p2), .val (.int (0 : Int32)), .val (.int (1 : Int32)), .val (.int ((p1 &&& (2147483647 : Int32)) % (3 : Int32))), .unset, .unset] [])) (fun t_ k_ => XS.icmpYes X0.here hx rfl (pc0 := 63) (pc' := 89) rfl (hb hby at_63) rfl (feq hc14).2 (by decide) (by decide) k_) ?_
          obtain ⟨T17, X17, e17, st17⟩ := getS2 X0 hx hZ hown (host := "") (Or.inl (hw _ (List.mem_of_getElem? (i := 11) rfl))) Via.refl e0 (S_COMPLEMENT.ext O0.2) (g := (mkF m 89 #[.val (.int p1), .val (.int p2), .val (.int (0 : Int32)), .val (.int (1 : Int32)), .val (.int ((p1 &&& (2147483647 : Int32)) % (3 : Int32))), .unset, .unset] [])) rfl (hb hby at_89)
          refine own_st (T' := T17) (g' := (mkF m 92 #[.val (.int p1), .val (.int p2), .val (.int (0 : Int32)), .val (.int (1 : Int32)), .val (.int ((p1 &&& (2147483647 : Int32)) % (3 : Int32))), .unset, .unset] [(.ref w_COMPLEMENT)])) st17 ?_
          refine own_st (T' := T17) (g' := (mkF m 94 #[.val (.int p1), .val (.int p2), .val (.int (0 : Int32)), .val (.int (1 : Int32)), .val (.int ((p1 &&& (2147483647 : Int32)) % (3 : Int32))), .val (.ref w_COMPLEMENT), .unset] [])) (fun t_ k_ => XS.astore X17.here hx rfl (hb hby at_92) rfl rfl (l' := #[.val (.int p1), .val (.int p2), .val (.int (0 : Int32)), .val (.int (1 : Int32)), .val (.int ((p1 &&& (2147483647 : Int32)) % (3 : Int32))), .val (.ref w_COMPLEMENT), .unset]) rfl k_) ?_
          refine own_st (T' := T17) (g' := (mkF m 95 #[.val (.int p1), .val (.int p2), .val (.int (0 : Int32)), .val (.int (1 : Int32)), .val (.int ((p1 &&& (2147483647 : Int32)) % (3 : Int32))), .val (.ref w_COMPLEMENT), .unset] [(.int (0 : Int32))])) (fun t_ k_ => XS.iloadN X17.here hx rfl (hb hby at_94) rfl  k_) ?_
          refine own_st (T' := T17) (g' := (mkF m 106 #[.val (.int p1), .val (.int p2), .val (.int (0 : Int32)), .val (.int (1 : Int32)), .val (.int ((p1 &&& (2147483647 : Int32)) % (3 : Int32))), .val (.ref w_COMPLEMENT), .unset] [])) (fun t_ k_ => XS.ifYes X17.here hx rfl (pc0 := 95) (pc' := 106) rfl (hb hby at_95) rfl ((if0 _ _).trans (teq (rfl : (0 : Int32) = (0 : Int32))).1) (by decide) (by decide) k_) ?_
          refine own_st (T' := T17) (g' := (mkF m 107 #[.val (.int p1), .val (.int p2), .val (.int (0 : Int32)), .val (.int (1 : Int32)), .val (.int ((p1 &&& (2147483647 : Int32)) % (3 : Int32))), .val (.ref w_COMPLEMENT), .unset] [(.int (0 : Int32))])) (fun t_ k_ => XS.iconst X17.here hx rfl (hb hby at_106) k_) ?_
          refine own_st (T' := T17) (g' := (mkF m 109 #[.val (.int p1), .val (.int p2), .val (.int (0 : Int32)), .val (.int (1 : Int32)), .val (.int ((p1 &&& (2147483647 : Int32)) % (3 : Int32))), .val (.ref w_COMPLEMENT), .val (.int (0 : Int32))] [])) (fun t_ k_ => XS.istore X17.here hx rfl (hb hby at_107) rfl (l' := #[.val (.int p1), .val (.int p2), .val (.int (0 : Int32)), .val (.int (1 : Int32)), .val (.int ((p1 &&& (2147483647 : Int32)) % (3 : Int32))), .val (.ref w_COMPLEMENT), .val (.int (0 : Int32))]) rfl k_) ?_
          refine own_st (T' := T17) (g' := (mkF m 111 #[.val (.int p1), .val (.int p2), .val (.int (0 : Int32)), .val (.int (1 : Int32)), .val (.int ((p1 &&& (2147483647 : Int32)) % (3 : Int32))), .val (.ref w_COMPLEMENT), .val (.int (0 : Int32))] [(.ref w_COMPLEMENT)])) (fun t_ k_ => XS.aload X17.here hx rfl (hb hby at_109) rfl rfl  k_) ?_
          refine own_st (T' := T17) (g' := (mkF m 112 #[.val (.int p1), .val (.int p2), .val (.int (0 : Int32)), .val (.int (1 : Int32)), .val (.int ((p1 &&& (2147483647 : Int32)) % (3 : Int32))), .val (.ref w_COMPLEMENT), .val (.int (0 : Int32))] [(.int (0 : Int32)), (.ref w_COMPLEMENT)])) (fun t_ k_ => XS.iloadN X17.here hx rfl (hb hby at_111) rfl  k_) ?_
          refine own_st (T' := T17) (g' := (mkF m 113 #[.val (.int p1), .val (.int p2), .val (.int (0 : Int32)), .val (.int (1 : Int32)), .val (.int ((p1 &&& (2147483647 : Int32)) % (3 : Int32))), .val (.ref w_COMPLEMENT), .val (.int (0 : Int32))] [(.int (1 : Int32)), (.int (0 : Int32)), (.ref w_COMPLEMENT)])) (fun t_ k_ => XS.iloadN X17.here hx rfl (hb hby at_112) rfl  k_) ?_
          obtain ⟨cq18, kq18, q18a, q18b, q18c⟩ := isOf hZ e17 (X_COMPLEMENT.ext O0.2)
          obtain ⟨_, _, ⟨T18, L18, k18, n18⟩, -, X18, ⟨Lc18, hQ18, l18, y18, z18⟩, st18⟩ := X17.virtualBack hx (y := (⟨"com/example/ixora/ixora/membership/CompositeType", "includes", "(ZZ)Z"⟩ : MethodName)) (z := (⟨"com/example/ixora/ixora/membership/CompositeType", "includes", "(ZZ)Z"⟩ : MethodName)) hown (mvT hZ (hw _ (List.mem_of_getElem? (i := 4) rfl))) (mvT hZ (hw _ (List.mem_of_getElem? (i := 5) rfl))) (notFace_of_selects (args := #[]) (mvT hZ (hw _ (List.mem_of_getElem? (i := 7) rfl)))) (mvT hZ (hw _ (List.mem_of_getElem? (i := 7) rfl))) (mvT hZ (hw _ (List.mem_of_getElem? (i := 6) rfl))) (by decide) (backOf (W := 0) (rm_inc l Z a0 hw [] w_COMPLEMENT (0 : Int32) (1 : Int32) (0 : Int32) (1 : Int32) (0 : Int32) h0 n0 O0 F_COMPLEMENT_both F_COMPLEMENT_leftOnly F_COMPLEMENT_rightOnly) hZ (hw _ (List.mem_of_getElem? (i := 8) rfl)) (hw _ (List.mem_of_getElem? (i := 2) rfl)) (by decide) (by decide)) q18a q18c (g := (mkF m 113 #[.val (.int p1), .val (.int p2), .val (.int (0 : Int32)), .val (.int (1 : Int32)), .val (.int ((p1 &&& (2147483647 : Int32)) % (3 : Int32))), .val (.ref w_COMPLEMENT), .val (.int (0 : Int32))] [(.int (1 : Int32)), (.int (0 : Int32)), (.ref w_COMPLEMENT)])) rfl (by rw [hml]; rfl) (Steps.refl _) (argsL := [(.int (0 : Int32)), (.int (1 : Int32))]) (rest := []) (lenOf pd__ZZ_Z rfl) rfl (by show 2 * 0 + _ ≤ _; exact Nat.le_of_eq rfl) (hb hby at_113) (fun _ _ => ⟨rfl, e17, (by decide : 0 + 0 ≤ _), (by decide : 0 + 0 ≤ _)⟩)
          dsimp only [Pt.U, Pt.locs, Pt.cells, Pt.slots] at X18 l18 y18 z18 st18 hQ18
          subst l18 y18 z18
          obtain ⟨rfl, Nq18, eq18⟩ := hQ18
          have N18 := Fr.app N0 Nq18
          refine own_st (T' := T18) (g' := (mkF m 116 #[.val (.int p1), .val (.int p2), .val (.int (0 : Int32)), .val (.int (1 : Int32)), .val (.int ((p1 &&& (2147483647 : Int32)) % (3 : Int32))), .val (.ref w_COMPLEMENT), .val (.int (0 : Int32))] [(.int (own_inc (0 : Int32) (1 : Int32) (0 : Int32) (1 : Int32) (0 : Int32)))])) (fun t_ k_ => st18.trans k_) ?_
          refine own_st (T' := T18) (g' := (mkF m 118 #[.val (.int p1), .val (.int p2), .val (.int (0 : Int32)), .val (.int (1 : Int32)), .val (.int ((p1 &&& (2147483647 : Int32)) % (3 : Int32))), .val (.ref w_COMPLEMENT), .val (.int (0 : Int32))] [(.int (0 : Int32)), (.int (own_inc (0 : Int32) (1 : Int32) (0 : Int32) (1 : Int32) (0 : Int32)))])) (fun t_ k_ => XS.iload X18.here hx rfl (hb hby at_116) rfl  k_) ?_
          refine own_st (T' := T18) (g' := (mkF m 121 #[.val (.int p1), .val (.int p2), .val (.int (0 : Int32)), .val (.int (1 : Int32)), .val (.int ((p1 &&& (2147483647 : Int32)) % (3 : Int32))), .val (.ref w_COMPLEMENT), .val (.int (0 : Int32))] [])) (fun t_ k_ => XS.icmpNo X18.here hx rfl (hb hby at_118) rfl (teq (by decide : (own_inc (0 : Int32) (1 : Int32) (0 : Int32) (1 : Int32) (0 : Int32)) = (0 : Int32))).2 k_) ?_
          refine own_st (T' := T18) (g' := (mkF m 122 #[.val (.int p1), .val (.int p2), .val (.int (0 : Int32)), .val (.int (1 : Int32)), .val (.int ((p1 &&& (2147483647 : Int32)) % (3 : Int32))), .val (.ref w_COMPLEMENT), .val (.int (0 : Int32))] [(.int (1 : Int32))])) (fun t_ k_ => XS.iconst X18.here hx rfl (hb hby at_121) k_) ?_
          refine own_st (T' := T18) (g' := (mkF m 126 #[.val (.int p1), .val (.int p2), .val (.int (0 : Int32)), .val (.int (1 : Int32)), .val (.int ((p1 &&& (2147483647 : Int32)) % (3 : Int32))), .val (.ref w_COMPLEMENT), .val (.int (0 : Int32))] [(.int (1 : Int32))])) (fun t_ k_ => XS.goto X18.here hx rfl (pc0 := 122) (pc' := 126) rfl (hb hby at_122) (by decide) (by decide) k_) ?_
          exact own_retN X18 hx (t := .boolean) hret (by simp) hlk (hb hby at_126) (by decide) (by decide) ⟨rfl, N18⟩
  · refine own_st (T' := s₁) (g' := (mkF m 6 #[.val (.int p1), .val (.int p2), .unset, .unset, .unset, .unset, .unset] [])) (fun t_ k_ => XS.ifNo X0.here hx rfl (hb hby at_3) rfl ((if0 _ _).trans (feq hc1).1) k_) ?_
    refine own_st (T' := s₁) (g' := (mkF m 7 #[.val (.int p1), .val (.int p2), .unset, .unset, .unset, .unset, .unset] [(.int (1 : Int32))])) (fun t_ k_ => XS.iconst X0.here hx rfl (hb hby at_6) k_) ?_
    refine own_st (T' := s₁) (g' := (mkF m 11 #[.val (.int p1), .val (.int p2), .unset, .unset, .unset, .unset, .unset] [(.int (1 : Int32))])) (fun t_ k_ => XS.goto X0.here hx rfl (pc0 := 7) (pc' := 11) rfl (hb hby at_7) (by decide) (by decide) k_) ?_
    refine own_st (T' := s₁) (g' := (mkF m 12 #[.val (.int p1), .val (.int p2), .val (.int (1 : Int32)), .unset, .unset, .unset, .unset] [])) (fun t_ k_ => XS.istoreN X0.here hx rfl (hb hby at_11) rfl (l' := #[.val (.int p1), .val (.int p2), .val (.int (1 : Int32)), .unset, .unset, .unset, .unset]) rfl k_) ?_
    refine own_st (T' := s₁) (g' := (mkF m 13 #[.val (.int p1), .val (.int p2), .val (.int (1 : Int32)), .unset, .unset, .unset, .unset] [(.int p2)])) (fun t_ k_ => XS.iloadN X0.here hx rfl (hb hby at_12) rfl  k_) ?_
    refine own_st (T' := s₁) (g' := (mkF m 14 #[.val (.int p1), .val (.int p2), .val (.int (1 : Int32)), .unset, .unset, .unset, .unset] [(.int (2 : Int32)), (.int p2)])) (fun t_ k_ => XS.iconst X0.here hx rfl (hb hby at_13) k_) ?_
    refine own_st (T' := s₁) (g' := (mkF m 15 #[.val (.int p1), .val (.int p2), .val (.int (1 : Int32)), .unset, .unset, .unset, .unset] [(.int (p2 &&& (2 : Int32)))])) (fun t_ k_ => XS.iand X0.here hx rfl (hb hby at_14) rfl k_) ?_
    by_cases hc19 : (p2 &&& (2 : Int32)) = (0 : Int32)
    · refine own_st (T' := s₁) (g' := (mkF m 22 #[.val (.int p1), .val (.int p2), .val (.int (1 : Int32)), .unset, .unset, .unset, .unset] [])) (fun t_ k_ => XS.ifYes X0.here hx rfl (pc0 := 15) (pc' := 22) rfl (hb hby at_15) rfl ((if0 _ _).trans (teq hc19).1) (by decide) (by decide) k_) ?_
      refine own_st (T' := s₁) (g' := (mkF m 23 #[.val (.int p1), .val (.int p2), .val (.int (1 : Int32)), .unset, .unset, .unset, .unset] [(.int (0 : Int32))])) (fun t_ k_ => XS.iconst X0.here hx rfl (hb hby at_22) k_) ?_
      refine own_st (T' := s₁) (g' := (mkF m 24 #[.val (.int p1), .val (.int p2), .val (.int (1 : Int32)), .val (.int (0 : Int32)), .unset, .unset, .unset] [])) (fun t_ k_ => XS.istoreN X0.here hx rfl (hb hby at_23) rfl (l' := #[.val (.int p1), .val (.int p2), .val (.int (1 : Int32)), .val (.int (0 : Int32)), .unset, .unset, .unset]) rfl k_) ?_
      refine own_st (T' := s₁) (g' := (mkF m 25 #[.val (.int p1), .val (.int p2), .val (.int (1 : Int32)), .val (.int (0 : Int32)), .unset, .unset, .unset] [(.int p1)])) (fun t_ k_ => XS.iloadN X0.here hx rfl (hb hby at_24) rfl  k_) ?_
      refine own_st (T' := s₁) (g' := (mkF m 27 #[.val (.int p1), .val (.int p2), .val (.int (1 : Int32)), .val (.int (0 : Int32)), .unset, .unset, .unset] [(.int (2147483647 : Int32)), (.int p1)])) (X0.ldcInt hx hown (mvT hZ (hw _ (List.mem_of_getElem? (i := 0) rfl))) (g := (mkF m 25 #[.val (.int p1), .val (.int p2), .val (.int (1 : Int32)), .val (.int (0 : Int32)), .unset, .unset, .unset] [(.int p1)])) rfl (hb hby at_25)) ?_
      refine own_st (T' := s₁) (g' := (mkF m 28 #[.val (.int p1), .val (.int p2), .val (.int (1 : Int32)), .val (.int (0 : Int32)), .unset, .unset, .unset] [(.int (p1 &&& (2147483647 : Int32)))])) (fun t_ k_ => XS.iand X0.here hx rfl (hb hby at_27) rfl k_) ?_
      refine own_st (T' := s₁) (g' := (mkF m 29 #[.val (.int p1), .val (.int p2), .val (.int (1 : Int32)), .val (.int (0 : Int32)), .unset, .unset, .unset] [(.int (3 : Int32)), (.int (p1 &&& (2147483647 : Int32)))])) (fun t_ k_ => XS.iconst X0.here hx rfl (hb hby at_28) k_) ?_
      refine own_st (T' := s₁) (g' := (mkF m 30 #[.val (.int p1), .val (.int p2), .val (.int (1 : Int32)), .val (.int (0 : Int32)), .unset, .unset, .unset] [(.int ((p1 &&& (2147483647 : Int32)) % (3 : Int32)))])) (fun t_ k_ => iremM X0 hx rfl (hb hby at_29) rfl (by decide) k_) ?_
      refine own_st (T' := s₁) (g' := (mkF m 32 #[.val (.int p1), .val (.int p2), .val (.int (1 : Int32)), .val (.int (0 : Int32)), .val (.int ((p1 &&& (2147483647 : Int32)) % (3 : Int32))), .unset, .unset] [])) (fun t_ k_ => XS.istore X0.here hx rfl (hb hby at_30) rfl (l' := #[.val (.int p1), .val (.int p2), .val (.int (1 : Int32)), .val (.int (0 : Int32)), .val (.int ((p1 &&& (2147483647 : Int32)) % (3 : Int32))), .unset, .unset]) rfl k_) ?_
      refine own_st (T' := s₁) (g' := (mkF m 34 #[.val (.int p1), .val (.int p2), .val (.int (1 : Int32)), .val (.int (0 : Int32)), .val (.int ((p1 &&& (2147483647 : Int32)) % (3 : Int32))), .unset, .unset] [(.int ((p1 &&& (2147483647 : Int32)) % (3 : Int32)))])) (fun t_ k_ => XS.iload X0.here hx rfl (hb hby at_32) rfl  k_) ?_
      by_cases hc20 : ((p1 &&& (2147483647 : Int32)) % (3 : Int32)) = (0 : Int32)
      · refine own_st (T' := s₁) (g' := (mkF m 37 #[.val (.int p1), .val (.int p2), .val (.int (1 : Int32)), .val (.int (0 : Int32)), .val (.int ((p1 &&& (2147483647 : Int32)) % (3 : Int32))), .unset, .unset] [])) (fun t_ k_ => XS.ifNo X0.here hx rfl (hb hby at_34) rfl ((if0 _ _).trans (teq hc20).2) k_) ?_
        obtain ⟨T21, X21, e21, st21⟩ := getS2 X0 hx hZ hown (host := "") (Or.inl (hw _ (List.mem_of_getElem? (i := 1) rfl))) Via.refl e0 (S_UNION.ext O0.2) (g := (mkF m 37 #[.val (.int p1), .val (.int p2), .val (.int (1 : Int32)), .val (.int (0 : Int32)), .val (.int ((p1 &&& (2147483647 : Int32)) % (3 : Int32))), .unset, .unset] [])) rfl (hb hby at_37)
        refine own_st (T' := T21) (g' := (mkF m 40 #[.val (.int p1), .val (.int p2), .val (.int (1 : Int32)), .val (.int (0 : Int32)), .val (.int ((p1 &&& (2147483647 : Int32)) % (3 : Int32))), .unset, .unset] [(.ref w_UNION)])) st21 ?_
        refine own_st (T' := T21) (g' := (mkF m 42 #[.val (.int p1), .val (.int p2), .val (.int (1 : Int32)), .val (.int (0 : Int32)), .val (.int ((p1 &&& (2147483647 : Int32)) % (3 : Int32))), .val (.ref w_UNION), .unset] [])) (fun t_ k_ => XS.astore X21.here hx rfl (hb hby at_40) rfl rfl (l' := #[.val (.int p1), .val (.int p2), .val (.int (1 : Int32)), .val (.int (0 : Int32)), .val (.int ((p1 &&& (2147483647 : Int32)) % (3 : Int32))), .val (.ref w_UNION), .unset]) rfl k_) ?_
        refine own_st (T' := T21) (g' := (mkF m 43 #[.val (.int p1), .val (.int p2), .val (.int (1 : Int32)), .val (.int (0 : Int32)), .val (.int ((p1 &&& (2147483647 : Int32)) % (3 : Int32))), .val (.ref w_UNION), .unset] [(.int (1 : Int32))])) (fun t_ k_ => XS.iloadN X21.here hx rfl (hb hby at_42) rfl  k_) ?_
        refine own_st (T' := T21) (g' := (mkF m 50 #[.val (.int p1), .val (.int p2), .val (.int (1 : Int32)), .val (.int (0 : Int32)), .val (.int ((p1 &&& (2147483647 : Int32)) % (3 : Int32))), .val (.ref w_UNION), .unset] [])) (fun t_ k_ => XS.ifYes X21.here hx rfl (pc0 := 43) (pc' := 50) rfl (hb hby at_43) rfl ((if0 _ _).trans (feq (by decide : ¬ ((1 : Int32) = (0 : Int32)))).2) (by decide) (by decide) k_) ?_
        refine own_st (T' := T21) (g' := (mkF m 51 #[.val (.int p1), .val (.int p2), .val (.int (1 : Int32)), .val (.int (0 : Int32)), .val (.int ((p1 &&& (2147483647 : Int32)) % (3 : Int32))), .val (.ref w_UNION), .unset] [(.int (1 : Int32))])) (fun t_ k_ => XS.iconst X21.here hx rfl (hb hby at_50) k_) ?_
        refine own_st (T' := T21) (g' := (mkF m 55 #[.val (.int p1), .val (.int p2), .val (.int (1 : Int32)), .val (.int (0 : Int32)), .val (.int ((p1 &&& (2147483647 : Int32)) % (3 : Int32))), .val (.ref w_UNION), .unset] [(.int (1 : Int32))])) (fun t_ k_ => XS.goto X21.here hx rfl (pc0 := 51) (pc' := 55) rfl (hb hby at_51) (by decide) (by decide) k_) ?_
        refine own_st (T' := T21) (g' := (mkF m 57 #[.val (.int p1), .val (.int p2), .val (.int (1 : Int32)), .val (.int (0 : Int32)), .val (.int ((p1 &&& (2147483647 : Int32)) % (3 : Int32))), .val (.ref w_UNION), .val (.int (1 : Int32))] [])) (fun t_ k_ => XS.istore X21.here hx rfl (hb hby at_55) rfl (l' := #[.val (.int p1), .val (.int p2), .val (.int (1 : Int32)), .val (.int (0 : Int32)), .val (.int ((p1 &&& (2147483647 : Int32)) % (3 : Int32))), .val (.ref w_UNION), .val (.int (1 : Int32))]) rfl k_) ?_
        refine own_st (T' := T21) (g' := (mkF m 109 #[.val (.int p1), .val (.int p2), .val (.int (1 : Int32)), .val (.int (0 : Int32)), .val (.int ((p1 &&& (2147483647 : Int32)) % (3 : Int32))), .val (.ref w_UNION), .val (.int (1 : Int32))] [])) (fun t_ k_ => XS.goto X21.here hx rfl (pc0 := 57) (pc' := 109) rfl (hb hby at_57) (by decide) (by decide) k_) ?_
        refine own_st (T' := T21) (g' := (mkF m 111 #[.val (.int p1), .val (.int p2), .val (.int (1 : Int32)), .val (.int (0 : Int32)), .val (.int ((p1 &&& (2147483647 : Int32)) % (3 : Int32))), .val (.ref w_UNION), .val (.int (1 : Int32))] [(.ref w_UNION)])) (fun t_ k_ => XS.aload X21.here hx rfl (hb hby at_109) rfl rfl  k_) ?_
        refine own_st (T' := T21) (g' := (mkF m 112 #[.val (.int p1), .val (.int p2), .val (.int (1 : Int32)), .val (.int (0 : Int32)), .val (.int ((p1 &&& (2147483647 : Int32)) % (3 : Int32))), .val (.ref w_UNION), .val (.int (1 : Int32))] [(.int (1 : Int32)), (.ref w_UNION)])) (fun t_ k_ => XS.iloadN X21.here hx rfl (hb hby at_111) rfl  k_) ?_
        refine own_st (T' := T21) (g' := (mkF m 113 #[.val (.int p1), .val (.int p2), .val (.int (1 : Int32)), .val (.int (0 : Int32)), .val (.int ((p1 &&& (2147483647 : Int32)) % (3 : Int32))), .val (.ref w_UNION), .val (.int (1 : Int32))] [(.int (0 : Int32)), (.int (1 : Int32)), (.ref w_UNION)])) (fun t_ k_ => XS.iloadN X21.here hx rfl (hb hby at_112) rfl  k_) ?_
        obtain ⟨cq22, kq22, q22a, q22b, q22c⟩ := isOf hZ e21 (X_UNION.ext O0.2)
        obtain ⟨_, _, ⟨T22, L22, k22, n22⟩, -, X22, ⟨Lc22, hQ22, l22, y22, z22⟩, st22⟩ := X21.virtualBack hx (y := (⟨"com/example/ixora/ixora/membership/CompositeType", "includes", "(ZZ)Z"⟩ : MethodName)) (z := (⟨"com/example/ixora/ixora/membership/CompositeType", "includes", "(ZZ)Z"⟩ : MethodName)) hown (mvT hZ (hw _ (List.mem_of_getElem? (i := 4) rfl))) (mvT hZ (hw _ (List.mem_of_getElem? (i := 5) rfl))) (notFace_of_selects (args := #[]) (mvT hZ (hw _ (List.mem_of_getElem? (i := 7) rfl)))) (mvT hZ (hw _ (List.mem_of_getElem? (i := 7) rfl))) (mvT hZ (hw _ (List.mem_of_getElem? (i := 6) rfl))) (by decide) (backOf (W := 0) (rm_inc l Z a0 hw [] w_UNION (1 : Int32) (0 : Int32) (1 : Int32) (1 : Int32) (1 : Int32) h0 n0 O0 F_UNION_both F_UNION_leftOnly F_UNION_rightOnly) hZ (hw _ (List.mem_of_getElem? (i := 8) rfl)) (hw _ (List.mem_of_getElem? (i := 2) rfl)) (by decide) (by decide)) q22a q22c (g := (mkF m 113 #[.val (.int p1), .val (.int p2), .val (.int (1 : Int32)), .val (.int (0 : Int32)), .val (.int ((p1 &&& (2147483647 : Int32)) % (3 : Int32))), .val (.ref w_UNION), .val (.int (1 : Int32))] [(.int (0 : Int32)), (.int (1 : Int32)), (.ref w_UNION)])) rfl (by rw [hml]; rfl) (Steps.refl _) (argsL := [(.int (1 : Int32)), (.int (0 : Int32))]) (rest := []) (lenOf pd__ZZ_Z rfl) rfl (by show 2 * 0 + _ ≤ _; exact Nat.le_of_eq rfl) (hb hby at_113) (fun _ _ => ⟨rfl, e21, (by decide : 0 + 0 ≤ _), (by decide : 0 + 0 ≤ _)⟩)
        dsimp only [Pt.U, Pt.locs, Pt.cells, Pt.slots] at X22 l22 y22 z22 st22 hQ22
        subst l22 y22 z22
        obtain ⟨rfl, Nq22, eq22⟩ := hQ22
        have N22 := Fr.app N0 Nq22
        refine own_st (T' := T22) (g' := (mkF m 116 #[.val (.int p1), .val (.int p2), .val (.int (1 : Int32)), .val (.int (0 : Int32)), .val (.int ((p1 &&& (2147483647 : Int32)) % (3 : Int32))), .val (.ref w_UNION), .val (.int (1 : Int32))] [(.int (own_inc (1 : Int32) (0 : Int32) (1 : Int32) (1 : Int32) (1 : Int32)))])) (fun t_ k_ => st22.trans k_) ?_
        refine own_st (T' := T22) (g' := (mkF m 118 #[.val (.int p1), .val (.int p2), .val (.int (1 : Int32)), .val (.int (0 : Int32)), .val (.int ((p1 &&& (2147483647 : Int32)) % (3 : Int32))), .val (.ref w_UNION), .val (.int (1 : Int32))] [(.int (1 : Int32)), (.int (own_inc (1 : Int32) (0 : Int32) (1 : Int32) (1 : Int32) (1 : Int32)))])) (fun t_ k_ => XS.iload X22.here hx rfl (hb hby at_116) rfl  k_) ?_
        refine own_st (T' := T22) (g' := (mkF m 121 #[.val (.int p1), .val (.int p2), .val (.int (1 : Int32)), .val (.int (0 : Int32)), .val (.int ((p1 &&& (2147483647 : Int32)) % (3 : Int32))), .val (.ref w_UNION), .val (.int (1 : Int32))] [])) (fun t_ k_ => XS.icmpNo X22.here hx rfl (hb hby at_118) rfl (teq (by decide : (own_inc (1 : Int32) (0 : Int32) (1 : Int32) (1 : Int32) (1 : Int32)) = (1 : Int32))).2 k_) ?_
        refine own_st (T' := T22) (g' := (mkF m 122 #[.val (.int p1), .val (.int p2), .val (.int (1 : Int32)), .val (.int (0 : Int32)), .val (.int ((p1 &&& (2147483647 : Int32)) % (3 : Int32))), .val (.ref w_UNION), .val (.int (1 : Int32))] [(.int (1 : Int32))])) (fun t_ k_ => XS.iconst X22.here hx rfl (hb hby at_121) k_) ?_
        refine own_st (T' := T22) (g' := (mkF m 126 #[.val (.int p1), .val (.int p2), .val (.int (1 : Int32)), .val (.int (0 : Int32)), .val (.int ((p1 &&& (2147483647 : Int32)) % (3 : Int32))), .val (.ref w_UNION), .val (.int (1 : Int32))] [(.int (1 : Int32))])) (fun t_ k_ => XS.goto X22.here hx rfl (pc0 := 122) (pc' := 126) rfl (hb hby at_122) (by decide) (by decide) k_) ?_
        exact own_retN X22 hx (t := .boolean) hret (by simp) hlk (hb hby at_126) (by decide) (by decide) ⟨rfl, N22⟩
      · refine own_st (T' := s₁) (g' := (mkF m 60 #[.val (.int p1), .val (.int p2), .val (.int (1 : Int32)), .val (.int (0 : Int32)), .val (.int ((p1 &&& (2147483647 : Int32)) % (3 : Int32))), .unset, .unset] [])) (fun t_ k_ => XS.ifYes X0.here hx rfl (pc0 := 34) (pc' := 60) rfl (hb hby at_34) rfl ((if0 _ _).trans (feq hc20).2) (by decide) (by decide) k_) ?_
        refine own_st (T' := s₁) (g' := (mkF m 62 #[.val (.int p1), .val (.int p2), .val (.int (1 : Int32)), .val (.int (0 : Int32)), .val (.int ((p1 &&& (2147483647 : Int32)) % (3 : Int32))), .unset, .unset] [(.int ((p1 &&& (2147483647 : Int32)) % (3 : Int32)))])) (fun t_ k_ => XS.iload X0.here hx rfl (hb hby at_60) rfl  k_) ?_
        refine own_st (T' := s₁) (g' := (mkF m 63 #[.val (.int p1), .val (.int p2), .val (.int (1 : Int32)), .val (.int (0 : Int32)), .val (.int ((p1 &&& (2147483647 : Int32)) % (3 : Int32))), .unset, .unset] [(.int (1 : Int32)), (.int ((p1 &&& (2147483647 : Int32)) % (3 : Int32)))])) (fun t_ k_ => XS.iconst X0.here hx rfl (hb hby at_62) k_) ?_
        by_cases hc23 : ((p1 &&& (2147483647 : Int32)) % (3 : Int32)) = (1 : Int32)
        · refine own_st (T' := s₁) (g' := (mkF m 66 #[.val (.int p1), .val (.int p2), .val (.int (1 : Int32)), .val (.int (0 : Int32)), .val (.int ((p1 &&& (2147483647 : Int32)) % (3 : Int32))), .unset, .unset] [])) (fun t_ k_ => XS.icmpNo X0.here hx rfl (hb hby at_63) rfl (teq hc23).2 k_) ?_
          obtain ⟨T24, X24, e24, st24⟩ := getS2 X0 hx hZ hown (host := "") (Or.inl (hw _ (List.mem_of_getElem? (i := 15) rfl))) Via.refl e0 (S_INTERSECTION.ext O0.2) (g := (mkF m 66 #[.val (.int p1), .val (.int p2), .val (.int (1 : Int32)), .val (.int (0 : Int32)), .val (.int ((p1 &&& (2147483647 : Int32)) % (3 : Int32))), .unset, .unset] [])) rfl (hb hby at_66)
          refine own_st (T' := T24) (g' := (mkF m 69 #[.val (.int p1), .val (.int p2), .val (.int (1 : Int32)), .val (.int (0 : Int32)), .val (.int ((p1 &&& (2147483647 : Int32)) % (3 : Int32))), .unset, .unset] [(.ref w_INTERSECTION)])) st24 ?_
          refine own_st (T' := T24) (g' := (mkF m 71 #[.val (.int p1), .val (.int p2), .val (.int (1 : Int32)), .val (.int (0 : Int32)), .val (.int ((p1 &&& (2147483647 : Int32)) % (3 : Int32))), .val (.ref w_INTERSECTION), .unset] [])) (fun t_ k_ => XS.astore X24.here hx rfl (hb hby at_69) rfl rfl (l' := #[.val (.int p1), .val (.int p2), .val (.int (1 : Int32)), .val (.int (0 : Int32)), .val (.int ((p1 &&& (2147483647 : Int32)) % (3 : Int32))), .val (.ref w_INTERSECTION), .unset]) rfl k_) ?_
          refine own_st (T' := T24) (g' := (mkF m 72 #[.val (.int p1), .val (.int p2), .val (.int (1 : Int32)), .val (.int (0 : Int32)), .val (.int ((p1 &&& (2147483647 : Int32)) % (3 : Int32))), .val (.ref w_INTERSECTION), .unset] [(.int (1 : Int32))])) (fun t_ k_ => XS.iloadN X24.here hx rfl (hb hby at_71) rfl  k_) ?_
          refine own_st (T' := T24) (g' := (mkF m 75 #[.val (.int p1), .val (.int p2), .val (.int (1 : Int32)), .val (.int (0 : Int32)), .val (.int ((p1 &&& (2147483647 : Int32)) % (3 : Int32))), .val (.ref w_INTERSECTION), .unset] [])) (fun t_ k_ => XS.ifNo X24.here hx rfl (hb hby at_72) rfl ((if0 _ _).trans (feq (by decide : ¬ ((1 : Int32) = (0 : Int32)))).1) k_) ?_
          refine own_st (T' := T24) (g' := (mkF m 76 #[.val (.int p1), .val (.int p2), .val (.int (1 : Int32)), .val (.int (0 : Int32)), .val (.int ((p1 &&& (2147483647 : Int32)) % (3 : Int32))), .val (.ref w_INTERSECTION), .unset] [(.int (0 : Int32))])) (fun t_ k_ => XS.iloadN X24.here hx rfl (hb hby at_75) rfl  k_) ?_
          refine own_st (T' := T24) (g' := (mkF m 83 #[.val (.int p1), .val (.int p2), .val (.int (1 : Int32)), .val (.int (0 : Int32)), .val (.int ((p1 &&& (2147483647 : Int32)) % (3 : Int32))), .val (.ref w_INTERSECTION), .unset] [])) (fun t_ k_ => XS.ifYes X24.here hx rfl (pc0 := 76) (pc' := 83) rfl (hb hby at_76) rfl ((if0 _ _).trans (teq (rfl : (0 : Int32) = (0 : Int32))).1) (by decide) (by decide) k_) ?_
          refine own_st (T' := T24) (g' := (mkF m 84 #[.val (.int p1), .val (.int p2), .val (.int (1 : Int32)), .val (.int (0 : Int32)), .val (.int ((p1 &&& (2147483647 : Int32)) % (3 : Int32))), .val (.ref w_INTERSECTION), .unset] [(.int (0 : Int32))])) (fun t_ k_ => XS.iconst X24.here hx rfl (hb hby at_83) k_) ?_
          refine own_st (T' := T24) (g' := (mkF m 86 #[.val (.int p1), .val (.int p2), .val (.int (1 : Int32)), .val (.int (0 : Int32)), .val (.int ((p1 &&& (2147483647 : Int32)) % (3 : Int32))), .val (.ref w_INTERSECTION), .val (.int (0 : Int32))] [])) (fun t_ k_ => XS.istore X24.here hx rfl (hb hby at_84) rfl (l' := #[.val (.int p1), .val (.int p2), .val (.int (1 : Int32)), .val (.int (0 : Int32)), .val (.int ((p1 &&& (2147483647 : Int32)) % (3 : Int32))), .val (.ref w_INTERSECTION), .val (.int (0 : Int32))]) rfl k_) ?_
          refine own_st (T' := T24) (g' := (mkF m 109 #[.val (.int p1), .val (.int p2), .val (.int (1 : Int32)), .val (.int (0 : Int32)), .val (.int ((p1 &&& (2147483647 : Int32)) % (3 : Int32))), .val (.ref w_INTERSECTION), .val (.int (0 : Int32))] [])) (fun t_ k_ => XS.goto X24.here hx rfl (pc0 := 86) (pc' := 109) rfl (hb hby at_86) (by decide) (by decide) k_) ?_
          refine own_st (T' := T24) (g' := (mkF m 111 #[.val (.int p1), .val (.int p2), .val (.int (1 : Int32)), .val (.int (0 : Int32)), .val (.int ((p1 &&& (2147483647 : Int32)) % (3 : Int32))), .val (.ref w_INTERSECTION), .val (.int (0 : Int32))] [(.ref w_INTERSECTION)])) (fun t_ k_ => XS.aload X24.here hx rfl (hb hby at_109) rfl rfl  k_) ?_
          refine own_st (T' := T24) (g' := (mkF m 112 #[.val (.int p1), .val (.int p2), .val (.int (1 : Int32)), .val (.int (0 : Int32)), .val (.int ((p1 &&& (2147483647 : Int32)) % (3 : Int32))), .val (.ref w_INTERSECTION), .val (.int (0 : Int32))] [(.int (1 : Int32)), (.ref w_INTERSECTION)])) (fun t_ k_ => XS.iloadN X24.here hx rfl (hb hby at_111) rfl  k_) ?_
          refine own_st (T' := T24) (g' := (mkF m 113 #[.val (.int p1), .val (.int p2), .val (.int (1 : Int32)), .val (.int (0 : Int32)), .val (.int ((p1 &&& (2147483647 : Int32)) % (3 : Int32))), .val (.ref w_INTERSECTION), .val (.int (0 : Int32))] [(.int (0 : Int32)), (.int (1 : Int32)), (.ref w_INTERSECTION)])) (fun t_ k_ => XS.iloadN X24.here hx rfl (hb hby at_112) rfl  k_) ?_
          obtain ⟨cq25, kq25, q25a, q25b, q25c⟩ := isOf hZ e24 (X_INTERSECTION.ext O0.2)
          obtain ⟨_, _, ⟨T25, L25, k25, n25⟩, -, X25, ⟨Lc25, hQ25, l25, y25, z25⟩, st25⟩ := X24.virtualBack hx (y := (⟨"com/example/ixora/ixora/membership/CompositeType", "includes", "(ZZ)Z"⟩ : MethodName)) (z := (⟨"com/example/ixora/ixora/membership/CompositeType", "includes", "(ZZ)Z"⟩ : MethodName)) hown (mvT hZ (hw _ (List.mem_of_getElem? (i := 4) rfl))) (mvT hZ (hw _ (List.mem_of_getElem? (i := 5) rfl))) (notFace_of_selects (args := #[]) (mvT hZ (hw _ (List.mem_of_getElem? (i := 7) rfl)))) (mvT hZ (hw _ (List.mem_of_getElem? (i := 7) rfl))) (mvT hZ (hw _ (List.mem_of_getElem? (i := 6) rfl))) (by decide) (backOf (W := 0) (rm_inc l Z a0 hw [] w_INTERSECTION (1 : Int32) (0 : Int32) (1 : Int32) (0 : Int32) (0 : Int32) h0 n0 O0 F_INTERSECTION_both F_INTERSECTION_leftOnly F_INTERSECTION_rightOnly) hZ (hw _ (List.mem_of_getElem? (i := 8) rfl)) (hw _ (List.mem_of_getElem? (i := 2) rfl)) (by decide) (by decide)) q25a q25c (g := (mkF m 113 #[.val (.int p1), .val (.int p2), .val (.int (1 : Int32)), .val (.int (0 : Int32)), .val (.int ((p1 &&& (2147483647 : Int32)) % (3 : Int32))), .val (.ref w_INTERSECTION), .val (.int (0 : Int32))] [(.int (0 : Int32)), (.int (1 : Int32)), (.ref w_INTERSECTION)])) rfl (by rw [hml]; rfl) (Steps.refl _) (argsL := [(.int (1 : Int32)), (.int (0 : Int32))]) (rest := []) (lenOf pd__ZZ_Z rfl) rfl (by show 2 * 0 + _ ≤ _; exact Nat.le_of_eq rfl) (hb hby at_113) (fun _ _ => ⟨rfl, e24, (by decide : 0 + 0 ≤ _), (by decide : 0 + 0 ≤ _)⟩)
          dsimp only [Pt.U, Pt.locs, Pt.cells, Pt.slots] at X25 l25 y25 z25 st25 hQ25
          subst l25 y25 z25
          obtain ⟨rfl, Nq25, eq25⟩ := hQ25
          have N25 := Fr.app N0 Nq25
          refine own_st (T' := T25) (g' := (mkF m 116 #[.val (.int p1), .val (.int p2), .val (.int (1 : Int32)), .val (.int (0 : Int32)), .val (.int ((p1 &&& (2147483647 : Int32)) % (3 : Int32))), .val (.ref w_INTERSECTION), .val (.int (0 : Int32))] [(.int (own_inc (1 : Int32) (0 : Int32) (1 : Int32) (0 : Int32) (0 : Int32)))])) (fun t_ k_ => st25.trans k_) ?_
          refine own_st (T' := T25) (g' := (mkF m 118 #[.val (.int p1), .val (.int p2), .val (.int (1 : Int32)), .val (.int (0 : Int32)), .val (.int ((p1 &&& (2147483647 : Int32)) % (3 : Int32))), .val (.ref w_INTERSECTION), .val (.int (0 : Int32))] [(.int (0 : Int32)), (.int (own_inc (1 : Int32) (0 : Int32) (1 : Int32) (0 : Int32) (0 : Int32)))])) (fun t_ k_ => XS.iload X25.here hx rfl (hb hby at_116) rfl  k_) ?_
          refine own_st (T' := T25) (g' := (mkF m 121 #[.val (.int p1), .val (.int p2), .val (.int (1 : Int32)), .val (.int (0 : Int32)), .val (.int ((p1 &&& (2147483647 : Int32)) % (3 : Int32))), .val (.ref w_INTERSECTION), .val (.int (0 : Int32))] [])) (fun t_ k_ => XS.icmpNo X25.here hx rfl (hb hby at_118) rfl (teq (by decide : (own_inc (1 : Int32) (0 : Int32) (1 : Int32) (0 : Int32) (0 : Int32)) = (0 : Int32))).2 k_) ?_
          refine own_st (T' := T25) (g' := (mkF m 122 #[.val (.int p1), .val (.int p2), .val (.int (1 : Int32)), .val (.int (0 : Int32)), .val (.int ((p1 &&& (2147483647 : Int32)) % (3 : Int32))), .val (.ref w_INTERSECTION), .val (.int (0 : Int32))] [(.int (1 : Int32))])) (fun t_ k_ => XS.iconst X25.here hx rfl (hb hby at_121) k_) ?_
          refine own_st (T' := T25) (g' := (mkF m 126 #[.val (.int p1), .val (.int p2), .val (.int (1 : Int32)), .val (.int (0 : Int32)), .val (.int ((p1 &&& (2147483647 : Int32)) % (3 : Int32))), .val (.ref w_INTERSECTION), .val (.int (0 : Int32))] [(.int (1 : Int32))])) (fun t_ k_ => XS.goto X25.here hx rfl (pc0 := 122) (pc' := 126) rfl (hb hby at_122) (by decide) (by decide) k_) ?_
          exact own_retN X25 hx (t := .boolean) hret (by simp) hlk (hb hby at_126) (by decide) (by decide) ⟨rfl, N25⟩
        · refine own_st (T' := s₁) (g' := (mkF m 89 #[.val (.int p1), .val (.int p2), .val (.int (1 : Int32)), .val (.int (0 : Int32)), .val (.int ((p1 &&& (2147483647 : Int32)) % (3 : Int32))), .unset, .unset] [])) (fun t_ k_ => XS.icmpYes X0.here hx rfl (pc0 := 63) (pc' := 89) rfl (hb hby at_63) rfl (feq hc23).2 (by decide) (by decide) k_) ?_
          obtain ⟨T26, X26, e26, st26⟩ := getS2 X0 hx hZ hown (host := "") (Or.inl (hw _ (List.mem_of_getElem? (i := 11) rfl))) Via.refl e0 (S_COMPLEMENT.ext O0.2) (g := (mkF m 89 #[.val (.int p1), .val (.int p2), .val (.int (1 : Int32)), .val (.int (0 : Int32)), .val (.int ((p1 &&& (2147483647 : Int32)) % (3 : Int32))), .unset, .unset] [])) rfl (hb hby at_89)
          refine own_st (T' := T26) (g' := (mkF m 92 #[.val (.int p1), .val (.int p2), .val (.int (1 : Int32)), .val (.int (0 : Int32)), .val (.int ((p1 &&& (2147483647 : Int32)) % (3 : Int32))), .unset, .unset] [(.ref w_COMPLEMENT)])) st26 ?_
          refine own_st (T' := T26) (g' := (mkF m 94 #[.val (.int p1), .val (.int p2), .val (.int (1 : Int32)), .val (.int (0 : Int32)), .val (.int ((p1 &&& (2147483647 : Int32)) % (3 : Int32))), .val (.ref w_COMPLEMENT), .unset] [])) (fun t_ k_ => XS.astore X26.here hx rfl (hb hby at_92) rfl rfl (l' := #[.val (.int p1), .val (.int p2), .val (.int (1 : Int32)), .val (.int (0 : Int32)), .val (.int ((p1 &&& (2147483647 : Int32)) % (3 : Int32))), .val (.ref w_COMPLEMENT), .unset]) rfl k_) ?_
          refine own_st (T' := T26) (g' := (mkF m 95 #[.val (.int p1), .val (.int p2), .val (.int (1 : Int32)), .val (.int (0 : Int32)), .val (.int ((p1 &&& (2147483647 : Int32)) % (3 : Int32))), .val (.ref w_COMPLEMENT), .unset] [(.int (1 : Int32))])) (fun t_ k_ => XS.iloadN X26.here hx rfl (hb hby at_94) rfl  k_) ?_
          refine own_st (T' := T26) (g' := (mkF m 98 #[.val (.int p1), .val (.int p2), .val (.int (1 : Int32)), .val (.int (0 : Int32)), .val (.int ((p1 &&& (2147483647 : Int32)) % (3 : Int32))), .val (.ref w_COMPLEMENT), .unset] [])) (fun t_ k_ => XS.ifNo X26.here hx rfl (hb hby at_95) rfl ((if0 _ _).trans (feq (by decide : ¬ ((1 : Int32) = (0 : Int32)))).1) k_) ?_
          refine own_st (T' := T26) (g' := (mkF m 99 #[.val (.int p1), .val (.int p2), .val (.int (1 : Int32)), .val (.int (0 : Int32)), .val (.int ((p1 &&& (2147483647 : Int32)) % (3 : Int32))), .val (.ref w_COMPLEMENT), .unset] [(.int (0 : Int32))])) (fun t_ k_ => XS.iloadN X26.here hx rfl (hb hby at_98) rfl  k_) ?_
          refine own_st (T' := T26) (g' := (mkF m 102 #[.val (.int p1), .val (.int p2), .val (.int (1 : Int32)), .val (.int (0 : Int32)), .val (.int ((p1 &&& (2147483647 : Int32)) % (3 : Int32))), .val (.ref w_COMPLEMENT), .unset] [])) (fun t_ k_ => XS.ifNo X26.here hx rfl (hb hby at_99) rfl ((if0 _ _).trans (teq (rfl : (0 : Int32) = (0 : Int32))).2) k_) ?_
          refine own_st (T' := T26) (g' := (mkF m 103 #[.val (.int p1), .val (.int p2), .val (.int (1 : Int32)), .val (.int (0 : Int32)), .val (.int ((p1 &&& (2147483647 : Int32)) % (3 : Int32))), .val (.ref w_COMPLEMENT), .unset] [(.int (1 : Int32))])) (fun t_ k_ => XS.iconst X26.here hx rfl (hb hby at_102) k_) ?_
          refine own_st (T' := T26) (g' := (mkF m 107 #[.val (.int p1), .val (.int p2), .val (.int (1 : Int32)), .val (.int (0 : Int32)), .val (.int ((p1 &&& (2147483647 : Int32)) % (3 : Int32))), .val (.ref w_COMPLEMENT), .unset] [(.int (1 : Int32))])) (fun t_ k_ => XS.goto X26.here hx rfl (pc0 := 103) (pc' := 107) rfl (hb hby at_103) (by decide) (by decide) k_) ?_
          refine own_st (T' := T26) (g' := (mkF m 109 #[.val (.int p1), .val (.int p2), .val (.int (1 : Int32)), .val (.int (0 : Int32)), .val (.int ((p1 &&& (2147483647 : Int32)) % (3 : Int32))), .val (.ref w_COMPLEMENT), .val (.int (1 : Int32))] [])) (fun t_ k_ => XS.istore X26.here hx rfl (hb hby at_107) rfl (l' := #[.val (.int p1), .val (.int p2), .val (.int (1 : Int32)), .val (.int (0 : Int32)), .val (.int ((p1 &&& (2147483647 : Int32)) % (3 : Int32))), .val (.ref w_COMPLEMENT), .val (.int (1 : Int32))]) rfl k_) ?_
          refine own_st (T' := T26) (g' := (mkF m 111 #[.val (.int p1), .val (.int p2), .val (.int (1 : Int32)), .val (.int (0 : Int32)), .val (.int ((p1 &&& (2147483647 : Int32)) % (3 : Int32))), .val (.ref w_COMPLEMENT), .val (.int (1 : Int32))] [(.ref w_COMPLEMENT)])) (fun t_ k_ => XS.aload X26.here hx rfl (hb hby at_109) rfl rfl  k_) ?_
          refine own_st (T' := T26) (g' := (mkF m 112 #[.val (.int p1), .val (.int p2), .val (.int (1 : Int32)), .val (.int (0 : Int32)), .val (.int ((p1 &&& (2147483647 : Int32)) % (3 : Int32))), .val (.ref w_COMPLEMENT), .val (.int (1 : Int32))] [(.int (1 : Int32)), (.ref w_COMPLEMENT)])) (fun t_ k_ => XS.iloadN X26.here hx rfl (hb hby at_111) rfl  k_) ?_
          refine own_st (T' := T26) (g' := (mkF m 113 #[.val (.int p1), .val (.int p2), .val (.int (1 : Int32)), .val (.int (0 : Int32)), .val (.int ((p1 &&& (2147483647 : Int32)) % (3 : Int32))), .val (.ref w_COMPLEMENT), .val (.int (1 : Int32))] [(.int (0 : Int32)), (.int (1 : Int32)), (.ref w_COMPLEMENT)])) (fun t_ k_ => XS.iloadN X26.here hx rfl (hb hby at_112) rfl  k_) ?_
          obtain ⟨cq27, kq27, q27a, q27b, q27c⟩ := isOf hZ e26 (X_COMPLEMENT.ext O0.2)
          obtain ⟨_, _, ⟨T27, L27, k27, n27⟩, -, X27, ⟨Lc27, hQ27, l27, y27, z27⟩, st27⟩ := X26.virtualBack hx (y := (⟨"com/example/ixora/ixora/membership/CompositeType", "includes", "(ZZ)Z"⟩ : MethodName)) (z := (⟨"com/example/ixora/ixora/membership/CompositeType", "includes", "(ZZ)Z"⟩ : MethodName)) hown (mvT hZ (hw _ (List.mem_of_getElem? (i := 4) rfl))) (mvT hZ (hw _ (List.mem_of_getElem? (i := 5) rfl))) (notFace_of_selects (args := #[]) (mvT hZ (hw _ (List.mem_of_getElem? (i := 7) rfl)))) (mvT hZ (hw _ (List.mem_of_getElem? (i := 7) rfl))) (mvT hZ (hw _ (List.mem_of_getElem? (i := 6) rfl))) (by decide) (backOf (W := 0) (rm_inc l Z a0 hw [] w_COMPLEMENT (1 : Int32) (0 : Int32) (0 : Int32) (1 : Int32) (0 : Int32) h0 n0 O0 F_COMPLEMENT_both F_COMPLEMENT_leftOnly F_COMPLEMENT_rightOnly) hZ (hw _ (List.mem_of_getElem? (i := 8) rfl)) (hw _ (List.mem_of_getElem? (i := 2) rfl)) (by decide) (by decide)) q27a q27c (g := (mkF m 113 #[.val (.int p1), .val (.int p2), .val (.int (1 : Int32)), .val (.int (0 : Int32)), .val (.int ((p1 &&& (2147483647 : Int32)) % (3 : Int32))), .val (.ref w_COMPLEMENT), .val (.int (1 : Int32))] [(.int (0 : Int32)), (.int (1 : Int32)), (.ref w_COMPLEMENT)])) rfl (by rw [hml]; rfl) (Steps.refl _) (argsL := [(.int (1 : Int32)), (.int (0 : Int32))]) (rest := []) (lenOf pd__ZZ_Z rfl) rfl (by show 2 * 0 + _ ≤ _; exact Nat.le_of_eq rfl) (hb hby at_113) (fun _ _ => ⟨rfl, e26, (by decide : 0 + 0 ≤ _), (by decide : 0 + 0 ≤ _)⟩)
          dsimp only [Pt.U, Pt.locs, Pt.cells, Pt.slots] at X27 l27 y27 z27 st27 hQ27
          subst l27 y27 z27
          obtain ⟨rfl, Nq27, eq27⟩ := hQ27
          have N27 := Fr.app N0 Nq27
          refine own_st (T' := T27) (g' := (mkF m 116 #[.val (.int p1), .val (.int p2), .val (.int (1 : Int32)), .val (.int (0 : Int32)), .val (.int ((p1 &&& (2147483647 : Int32)) % (3 : Int32))), .val (.ref w_COMPLEMENT), .val (.int (1 : Int32))] [(.int (own_inc (1 : Int32) (0 : Int32) (0 : Int32) (1 : Int32) (0 : Int32)))])) (fun t_ k_ => st27.trans k_) ?_
          refine own_st (T' := T27) (g' := (mkF m 118 #[.val (.int p1), .val (.int p2), .val (.int (1 : Int32)), .val (.int (0 : Int32)), .val (.int ((p1 &&& (2147483647 : Int32)) % (3 : Int32))), .val (.ref w_COMPLEMENT), .val (.int (1 : Int32))] [(.int (1 : Int32)), (.int (own_inc (1 : Int32) (0 : Int32) (0 : Int32) (1 : Int32) (0 : Int32)))])) (fun t_ k_ => XS.iload X27.here hx rfl (hb hby at_116) rfl  k_) ?_
          refine own_st (T' := T27) (g' := (mkF m 121 #[.val (.int p1), .val (.int p2), .val (.int (1 : Int32)), .val (.int (0 : Int32)), .val (.int ((p1 &&& (2147483647 : Int32)) % (3 : Int32))), .val (.ref w_COMPLEMENT), .val (.int (1 : Int32))] [])) (fun t_ k_ => XS.icmpNo X27.here hx rfl (hb hby at_118) rfl (teq (by decide : (own_inc (1 : Int32) (0 : Int32) (0 : Int32) (1 : Int32) (0 : Int32)) = (1 : Int32))).2 k_) ?_
          refine own_st (T' := T27) (g' := (mkF m 122 #[.val (.int p1), .val (.int p2), .val (.int (1 : Int32)), .val (.int (0 : Int32)), .val (.int ((p1 &&& (2147483647 : Int32)) % (3 : Int32))), .val (.ref w_COMPLEMENT), .val (.int (1 : Int32))] [(.int (1 : Int32))])) (fun t_ k_ => XS.iconst X27.here hx rfl (hb hby at_121) k_) ?_
          refine own_st (T' := T27) (g' := (mkF m 126 #[.val (.int p1), .val (.int p2), .val (.int (1 : Int32)), .val (.int (0 : Int32)), .val (.int ((p1 &&& (2147483647 : Int32)) % (3 : Int32))), .val (.ref w_COMPLEMENT), .val (.int (1 : Int32))] [(.int (1 : Int32))])) (fun t_ k_ => XS.goto X27.here hx rfl (pc0 := 122) (pc' := 126) rfl (hb hby at_122) (by decide) (by decide) k_) ?_
          exact own_retN X27 hx (t := .boolean) hret (by simp) hlk (hb hby at_126) (by decide) (by decide) ⟨rfl, N27⟩
    · refine own_st (T' := s₁) (g' := (mkF m 18 #[.val (.int p1), .val (.int p2), .val (.int (1 : Int32)), .unset, .unset, .unset, .unset] [])) (fun t_ k_ => XS.ifNo X0.here hx rfl (hb hby at_15) rfl ((if0 _ _).trans (feq hc19).1) k_) ?_
      refine own_st (T' := s₁) (g' := (mkF m 19 #[.val (.int p1), .val (.int p2), .val (.int (1 : Int32)), .unset, .unset, .unset, .unset] [(.int (1 : Int32))])) (fun t_ k_ => XS.iconst X0.here hx rfl (hb hby at_18) k_) ?_
      refine own_st (T' := s₁) (g' := (mkF m 23 #[.val (.int p1), .val (.int p2), .val (.int (1 : Int32)), .unset, .unset, .unset, .unset] [(.int (1 : Int32))])) (fun t_ k_ => XS.goto X0.here hx rfl (pc0 := 19) (pc' := 23) rfl (hb hby at_19) (by decide) (by decide) k_) ?_
      refine own_st (T' := s₁) (g' := (mkF m 24 #[.val (.int p1), .val (.int p2), .val (.int (1 : Int32)), .val (.int (1 : Int32)), .unset, .unset, .unset] [])) (fun t_ k_ => XS.istoreN X0.here hx rfl (hb hby at_23) rfl (l' := #[.val (.int p1), .val (.int p2), .val (.int (1 : Int32)), .val (.int (1 : Int32)), .unset, .unset, .unset]) rfl k_) ?_
      refine own_st (T' := s₁) (g' := (mkF m 25 #[.val (.int p1), .val (.int p2), .val (.int (1 : Int32)), .val (.int (1 : Int32)), .unset, .unset, .unset] [(.int p1)])) (fun t_ k_ => XS.iloadN X0.here hx rfl (hb hby at_24) rfl  k_) ?_
      refine own_st (T' := s₁) (g' := (mkF m 27 #[.val (.int p1), .val (.int p2), .val (.int (1 : Int32)), .val (.int (1 : Int32)), .unset, .unset, .unset] [(.int (2147483647 : Int32)), (.int p1)])) (X0.ldcInt hx hown (mvT hZ (hw _ (List.mem_of_getElem? (i := 0) rfl))) (g := (mkF m 25 #[.val (.int p1), .val (.int p2), .val (.int (1 : Int32)), .val (.int (1 : Int32)), .unset, .unset, .unset] [(.int p1)])) rfl (hb hby at_25)) ?_
      refine own_st (T' := s₁) (g' := (mkF m 28 #[.val (.int p1), .val (.int p2), .val (.int (1 : Int32)), .val (.int (1 : Int32)), .unset, .unset, .unset] [(.int (p1 &&& (2147483647 : Int32)))])) (fun t_ k_ => XS.iand X0.here hx rfl (hb hby at_27) rfl k_) ?_
      refine own_st (T' := s₁) (g' := (mkF m 29 #[.val (.int p1), .val (.int p2), .val (.int (1 : Int32)), .val (.int (1 : Int32)), .unset, .unset, .unset] [(.int (3 : Int32)), (.int (p1 &&& (2147483647 : Int32)))])) (fun t_ k_ => XS.iconst X0.here hx rfl (hb hby at_28) k_) ?_
      refine own_st (T' := s₁) (g' := (mkF m 30 #[.val (.int p1), .val (.int p2), .val (.int (1 : Int32)), .val (.int (1 : Int32)), .unset, .unset, .unset] [(.int ((p1 &&& (2147483647 : Int32)) % (3 : Int32)))])) (fun t_ k_ => iremM X0 hx rfl (hb hby at_29) rfl (by decide) k_) ?_
      refine own_st (T' := s₁) (g' := (mkF m 32 #[.val (.int p1), .val (.int p2), .val (.int (1 : Int32)), .val (.int (1 : Int32)), .val (.int ((p1 &&& (2147483647 : Int32)) % (3 : Int32))), .unset, .unset] [])) (fun t_ k_ => XS.istore X0.here hx rfl (hb hby at_30) rfl (l' := #[.val (.int p1), .val (.int p2), .val (.int (1 : Int32)), .val (.int (1 : Int32)), .val (.int ((p1 &&& (2147483647 : Int32)) % (3 : Int32))), .unset, .unset]) rfl k_) ?_
      refine own_st (T' := s₁) (g' := (mkF m 34 #[.val (.int p1), .val (.int p2), .val (.int (1 : Int32)), .val (.int (1 : Int32)), .val (.int ((p1 &&& (2147483647 : Int32)) % (3 : Int32))), .unset, .unset] [(.int ((p1 &&& (2147483647 : Int32)) % (3 : Int32)))])) (fun t_ k_ => XS.iload X0.here hx rfl (hb hby at_32) rfl  k_) ?_
      by_cases hc28 : ((p1 &&& (2147483647 : Int32)) % (3 : Int32)) = (0 : Int32)
      · refine own_st (T' := s₁) (g' := (mkF m 37 #[.val (.int p1), .val (.int p2), .val (.int (1 : Int32)), .val (.int (1 : Int32)), .val (.int ((p1 &&& (2147483647 : Int32)) % (3 : Int32))), .unset, .unset] [])) (fun t_ k_ => XS.ifNo X0.here hx rfl (hb hby at_34) rfl ((if0 _ _).trans (teq hc28).2) k_) ?_
        obtain ⟨T29, X29, e29, st29⟩ := getS2 X0 hx hZ hown (host := "") (Or.inl (hw _ (List.mem_of_getElem? (i := 1) rfl))) Via.refl e0 (S_UNION.ext O0.2) (g := (mkF m 37 #[.val (.int p1), .val (.int p2), .val (.int (1 : Int32)), .val (.int (1 : Int32)), .val (.int ((p1 &&& (2147483647 : Int32)) % (3 : Int32))), .unset, .unset] [])) rfl (hb hby at_37)
        refine own_st (T' := T29) (g' := (mkF m 40 #[.val (.int p1), .val (.int p2), .val (.int (1 : Int32)), .val (.int (1 : Int32)), .val (.int ((p1 &&& (2147483647 : Int32)) % (3 : Int32))), .unset, .unset] [(.ref w_UNION)])) st29 ?_
        refine own_st (T' := T29) (g' := (mkF m 42 #[.val (.int p1), .val (.int p2), .val (.int (1 : Int32)), .val (.int (1 : Int32)), .val (.int ((p1 &&& (2147483647 : Int32)) % (3 : Int32))), .val (.ref w_UNION), .unset] [])) (fun t_ k_ => XS.astore X29.here hx rfl (hb hby at_40) rfl rfl (l' := #[.val (.int p1), .val (.int p2), .val (.int (1 : Int32)), .val (.int (1 : Int32)), .val (.int ((p1 &&& (2147483647 : Int32)) % (3 : Int32))), .val (.ref w_UNION), .unset]) rfl k_) ?_
        refine own_st (T' := T29) (g' := (mkF m 43 #[.val (.int p1), .val (.int p2), .val (.int (1 : Int32)), .val (.int (1 : Int32)), .val (.int ((p1 &&& (2147483647 : Int32)) % (3 : Int32))), .val (.ref w_UNION), .unset] [(.int (1 : Int32))])) (fun t_ k_ => XS.iloadN X29.here hx rfl (hb hby at_42) rfl  k_) ?_
        refine own_st (T' := T29) (g' := (mkF m 50 #[.val (.int p1), .val (.int p2), .val (.int (1 : Int32)), .val (.int (1 : Int32)), .val (.int ((p1 &&& (2147483647 : Int32)) % (3 : Int32))), .val (.ref w_UNION), .unset] [])) (fun t_ k_ => XS.ifYes X29.here hx rfl (pc0 := 43) (pc' := 50) rfl (hb hby at_43) rfl ((if0 _ _).trans (feq (by decide : ¬ ((1 : Int32) = (0 : Int32)))).2) (by decide) (by decide) k_) ?_
        refine own_st (T' := T29) (g' := (mkF m 51 #[.val (.int p1), .val (.int p2), .val (.int (1 : Int32)), .val (.int (1 : Int32)), .val (.int ((p1 &&& (2147483647 : Int32)) % (3 : Int32))), .val (.ref w_UNION), .unset] [(.int (1 : Int32))])) (fun t_ k_ => XS.iconst X29.here hx rfl (hb hby at_50) k_) ?_
        refine own_st (T' := T29) (g' := (mkF m 55 #[.val (.int p1), .val (.int p2), .val (.int (1 : Int32)), .val (.int (1 : Int32)), .val (.int ((p1 &&& (2147483647 : Int32)) % (3 : Int32))), .val (.ref w_UNION), .unset] [(.int (1 : Int32))])) (fun t_ k_ => XS.goto X29.here hx rfl (pc0 := 51) (pc' := 55) rfl (hb hby at_51) (by decide) (by decide) k_) ?_
        refine own_st (T' := T29) (g' := (mkF m 57 #[.val (.int p1), .val (.int p2), .val (.int (1 : Int32)), .val (.int (1 : Int32)), .val (.int ((p1 &&& (2147483647 : Int32)) % (3 : Int32))), .val (.ref w_UNION), .val (.int (1 : Int32))] [])) (fun t_ k_ => XS.istore X29.here hx rfl (hb hby at_55) rfl (l' := #[.val (.int p1), .val (.int p2), .val (.int (1 : Int32)), .val (.int (1 : Int32)), .val (.int ((p1 &&& (2147483647 : Int32)) % (3 : Int32))), .val (.ref w_UNION), .val (.int (1 : Int32))]) rfl k_) ?_
        refine own_st (T' := T29) (g' := (mkF m 109 #[.val (.int p1), .val (.int p2), .val (.int (1 : Int32)), .val (.int (1 : Int32)), .val (.int ((p1 &&& (2147483647 : Int32)) % (3 : Int32))), .val (.ref w_UNION), .val (.int (1 : Int32))] [])) (fun t_ k_ => XS.goto X29.here hx rfl (pc0 := 57) (pc' := 109) rfl (hb hby at_57) (by decide) (by decide) k_) ?_
        refine own_st (T' := T29) (g' := (mkF m 111 #[.val (.int p1), .val (.int p2), .val (.int (1 : Int32)), .val (.int (1 : Int32)), .val (.int ((p1 &&& (2147483647 : Int32)) % (3 : Int32))), .val (.ref w_UNION), .val (.int (1 : Int32))] [(.ref w_UNION)])) (fun t_ k_ => XS.aload X29.here hx rfl (hb hby at_109) rfl rfl  k_) ?_
        refine own_st (T' := T29) (g' := (mkF m 112 #[.val (.int p1), .val (.int p2), .val (.int (1 : Int32)), .val (.int (1 : Int32)), .val (.int ((p1 &&& (2147483647 : Int32)) % (3 : Int32))), .val (.ref w_UNION), .val (.int (1 : Int32))] [(.int (1 : Int32)), (.ref w_UNION)])) (fun t_ k_ => XS.iloadN X29.here hx rfl (hb hby at_111) rfl  k_) ?_
        refine own_st (T' := T29) (g' := (mkF m 113 #[.val (.int p1), .val (.int p2), .val (.int (1 : Int32)), .val (.int (1 : Int32)), .val (.int ((p1 &&& (2147483647 : Int32)) % (3 : Int32))), .val (.ref w_UNION), .val (.int (1 : Int32))] [(.int (1 : Int32)), (.int (1 : Int32)), (.ref w_UNION)])) (fun t_ k_ => XS.iloadN X29.here hx rfl (hb hby at_112) rfl  k_) ?_
        obtain ⟨cq30, kq30, q30a, q30b, q30c⟩ := isOf hZ e29 (X_UNION.ext O0.2)
        obtain ⟨_, _, ⟨T30, L30, k30, n30⟩, -, X30, ⟨Lc30, hQ30, l30, y30, z30⟩, st30⟩ := X29.virtualBack hx (y := (⟨"com/example/ixora/ixora/membership/CompositeType", "includes", "(ZZ)Z"⟩ : MethodName)) (z := (⟨"com/example/ixora/ixora/membership/CompositeType", "includes", "(ZZ)Z"⟩ : MethodName)) hown (mvT hZ (hw _ (List.mem_of_getElem? (i := 4) rfl))) (mvT hZ (hw _ (List.mem_of_getElem? (i := 5) rfl))) (notFace_of_selects (args := #[]) (mvT hZ (hw _ (List.mem_of_getElem? (i := 7) rfl)))) (mvT hZ (hw _ (List.mem_of_getElem? (i := 7) rfl))) (mvT hZ (hw _ (List.mem_of_getElem? (i := 6) rfl))) (by decide) (backOf (W := 0) (rm_inc l Z a0 hw [] w_UNION (1 : Int32) (1 : Int32) (1 : Int32) (1 : Int32) (1 : Int32) h0 n0 O0 F_UNION_both F_UNION_leftOnly F_UNION_rightOnly) hZ (hw _ (List.mem_of_getElem? (i := 8) rfl)) (hw _ (List.mem_of_getElem? (i := 2) rfl)) (by decide) (by decide)) q30a q30c (g := (mkF m 113 #[.val (.int p1), .val (.int p2), .val (.int (1 : Int32)), .val (.int (1 : Int32)), .val (.int ((p1 &&& (2147483647 : Int32)) % (3 : Int32))), .val (.ref w_UNION), .val (.int (1 : Int32))] [(.int (1 : Int32)), (.int (1 : Int32)), (.ref w_UNION)])) rfl (by rw [hml]; rfl) (Steps.refl _) (argsL := [(.int (1 : Int32)), (.int (1 : Int32))]) (rest := []) (lenOf pd__ZZ_Z rfl) rfl (by show 2 * 0 + _ ≤ _; exact Nat.le_of_eq rfl) (hb hby at_113) (fun _ _ => ⟨rfl, e29, (by decide : 0 + 0 ≤ _), (by decide : 0 + 0 ≤ _)⟩)
        dsimp only [Pt.U, Pt.locs, Pt.cells, Pt.slots] at X30 l30 y30 z30 st30 hQ30
        subst l30 y30 z30
        obtain ⟨rfl, Nq30, eq30⟩ := hQ30
        have N30 := Fr.app N0 Nq30
        refine own_st (T' := T30) (g' := (mkF m 116 #[.val (.int p1), .val (.int p2), .val (.int (1 : Int32)), .val (.int (1 : Int32)), .val (.int ((p1 &&& (2147483647 : Int32)) % (3 : Int32))), .val (.ref w_UNION), .val (.int (1 : Int32))] [(.int (own_inc (1 : Int32) (1 : Int32) (1 : Int32) (1 : Int32) (1 : Int32)))])) (fun t_ k_ => st30.trans k_) ?_
        refine own_st (T' := T30) (g' := (mkF m 118 #[.val (.int p1), .val (.int p2), .val (.int (1 : Int32)), .val (.int (1 : Int32)), .val (.int ((p1 &&& (2147483647 : Int32)) % (3 : Int32))), .val (.ref w_UNION), .val (.int (1 : Int32))] [(.int (1 : Int32)), (.int (own_inc (1 : Int32) (1 : Int32) (1 : Int32) (1 : Int32) (1 : Int32)))])) (fun t_ k_ => XS.iload X30.here hx rfl (hb hby at_116) rfl  k_) ?_
        refine own_st (T' := T30) (g' := (mkF m 121 #[.val (.int p1), .val (.int p2), .val (.int (1 : Int32)), .val (.int (1 : Int32)), .val (.int ((p1 &&& (2147483647 : Int32)) % (3 : Int32))), .val (.ref w_UNION), .val (.int (1 : Int32))] [])) (fun t_ k_ => XS.icmpNo X30.here hx rfl (hb hby at_118) rfl (teq (by decide : (own_inc (1 : Int32) (1 : Int32) (1 : Int32) (1 : Int32) (1 : Int32)) = (1 : Int32))).2 k_) ?_
        refine own_st (T' := T30) (g' := (mkF m 122 #[.val (.int p1), .val (.int p2), .val (.int (1 : Int32)), .val (.int (1 : Int32)), .val (.int ((p1 &&& (2147483647 : Int32)) % (3 : Int32))), .val (.ref w_UNION), .val (.int (1 : Int32))] [(.int (1 : Int32))])) (fun t_ k_ => XS.iconst X30.here hx rfl (hb hby at_121) k_) ?_
        refine own_st (T' := T30) (g' := (mkF m 126 #[.val (.int p1), .val (.int p2), .val (.int (1 : Int32)), .val (.int (1 : Int32)), .val (.int ((p1 &&& (2147483647 : Int32)) % (3 : Int32))), .val (.ref w_UNION), .val (.int (1 : Int32))] [(.int (1 : Int32))])) (fun t_ k_ => XS.goto X30.here hx rfl (pc0 := 122) (pc' := 126) rfl (hb hby at_122) (by decide) (by decide) k_) ?_
        exact own_retN X30 hx (t := .boolean) hret (by simp) hlk (hb hby at_126) (by decide) (by decide) ⟨rfl, N30⟩
      · refine own_st (T' := s₁) (g' := (mkF m 60 #[.val (.int p1), .val (.int p2), .val (.int (1 : Int32)), .val (.int (1 : Int32)), .val (.int ((p1 &&& (2147483647 : Int32)) % (3 : Int32))), .unset, .unset] [])) (fun t_ k_ => XS.ifYes X0.here hx rfl (pc0 := 34) (pc' := 60) rfl (hb hby at_34) rfl ((if0 _ _).trans (feq hc28).2) (by decide) (by decide) k_) ?_
        refine own_st (T' := s₁) (g' := (mkF m 62 #[.val (.int p1), .val (.int p2), .val (.int (1 : Int32)), .val (.int (1 : Int32)), .val (.int ((p1 &&& (2147483647 : Int32)) % (3 : Int32))), .unset, .unset] [(.int ((p1 &&& (2147483647 : Int32)) % (3 : Int32)))])) (fun t_ k_ => XS.iload X0.here hx rfl (hb hby at_60) rfl  k_) ?_
        refine own_st (T' := s₁) (g' := (mkF m 63 #[.val (.int p1), .val (.int p2), .val (.int (1 : Int32)), .val (.int (1 : Int32)), .val (.int ((p1 &&& (2147483647 : Int32)) % (3 : Int32))), .unset, .unset] [(.int (1 : Int32)), (.int ((p1 &&& (2147483647 : Int32)) % (3 : Int32)))])) (fun t_ k_ => XS.iconst X0.here hx rfl (hb hby at_62) k_) ?_
        by_cases hc31 : ((p1 &&& (2147483647 : Int32)) % (3 : Int32)) = (1 : Int32)
        · refine own_st (T' := s₁) (g' := (mkF m 66 #[.val (.int p1), .val (.int p2), .val (.int (1 : Int32)), .val (.int (1 : Int32)), .val (.int ((p1 &&& (2147483647 : Int32)) % (3 : Int32))), .unset, .unset] [])) (fun t_ k_ => XS.icmpNo X0.here hx rfl (hb hby at_63) rfl (teq hc31).2 k_) ?_
          obtain ⟨T32, X32, e32, st32⟩ := getS2 X0 hx hZ hown (host := "") (Or.inl (hw _ (List.mem_of_getElem? (i := 15) rfl))) Via.refl e0 (S_INTERSECTION.ext O0.2) (g := (mkF m 66 #[.val (.int p1), .val (.int p2), .val (.int (1 : Int32)), .val (.int (1 : Int32)), .val (.int ((p1 &&& (2147483647 : Int32)) % (3 : Int32))), .unset, .unset] [])) rfl (hb hby at_66)
          refine own_st (T' := T32) (g' := (mkF m 69 #[.val (.int p1), .val (.int p2), .val (.int (1 : Int32)), .val (.int (1 : Int32)), .val (.int ((p1 &&& (2147483647 : Int32)) % (3 : Int32))), .unset, .unset] [(.ref w_INTERSECTION)])) st32 ?_
          refine own_st (T' := T32) (g' := (mkF m 71 #[.val (.int p1), .val (.int p2), .val (.int (1 : Int32)), .val (.int (1 : Int32)), .val (.int ((p1 &&& (2147483647 : Int32)) % (3 : Int32))), .val (.ref w_INTERSECTION), .unset] [])) (fun t_ k_ => XS.astore X32.here hx rfl (hb hby at_69) rfl rfl (l' := #[.val (.int p1), .val (.int p2), .val (.int (1 : Int32)), .val (.int (1 : Int32)), .val (.int ((p1 &&& (2147483647 : Int32)) % (3 : Int32))), .val (.ref w_INTERSECTION), .unset]) rfl k_) ?_
          refine own_st (T' := T32) (g' := (mkF m 72 #[.val (.int p1), .val (.int p2), .val (.int (1 : Int32)), .val (.int (1 : Int32)), .val (.int ((p1 &&& (2147483647 : Int32)) % (3 : Int32))), .val (.ref w_INTERSECTION), .unset] [(.int (1 : Int32))])) (fun t_ k_ => XS.iloadN X32.here hx rfl (hb hby at_71) rfl  k_) ?_
          refine own_st (T' := T32) (g' := (mkF m 75 #[.val (.int p1), .val (.int p2), .val (.int (1 : Int32)), .val (.int (1 : Int32)), .val (.int ((p1 &&& (2147483647 : Int32)) % (3 : Int32))), .val (.ref w_INTERSECTION), .unset] [])) (fun t_ k_ => XS.ifNo X32.here hx rfl (hb hby at_72) rfl ((if0 _ _).trans (feq (by decide : ¬ ((1 : Int32) = (0 : Int32)))).1) k_) ?_
          refine own_st (T' := T32) (g' := (mkF m 76 #[.val (.int p1), .val (.int p2), .val (.int (1 : Int32)), .val (.int (1 : Int32)), .val (.int ((p1 &&& (2147483647 : Int32)) % (3 : Int32))), .val (.ref w_INTERSECTION), .unset] [(.int (1 : Int32))])) (fun t_ k_ => XS.iloadN X32.here hx rfl (hb hby at_75) rfl  k_) ?_
          refine own_st (T' := T32) (g' := (mkF m 79 #[.val (.int p1), .val (.int p2), .val (.int (1 : Int32)), .val (.int (1 : Int32)), .val (.int ((p1 &&& (2147483647 : Int32)) % (3 : Int32))), .val (.ref w_INTERSECTION), .unset] [])) (fun t_ k_ => XS.ifNo X32.here hx rfl (hb hby at_76) rfl ((if0 _ _).trans (feq (by decide : ¬ ((1 : Int32) = (0 : Int32)))).1) k_) ?_
          refine own_st (T' := T32) (g' := (mkF m 80 #[.val (.int p1), .val (.int p2), .val (.int (1 : Int32)), .val (.int (1 : Int32)), .val (.int ((p1 &&& (2147483647 : Int32)) % (3 : Int32))), .val (.ref w_INTERSECTION), .unset] [(.int (1 : Int32))])) (fun t_ k_ => XS.iconst X32.here hx rfl (hb hby at_79) k_) ?_
          refine own_st (T' := T32) (g' := (mkF m 84 #[.val (.int p1), .val (.int p2), .val (.int (1 : Int32)), .val (.int (1 : Int32)), .val (.int ((p1 &&& (2147483647 : Int32)) % (3 : Int32))), .val (.ref w_INTERSECTION), .unset] [(.int (1 : Int32))])) (fun t_ k_ => XS.goto X32.here hx rfl (pc0 := 80) (pc' := 84) rfl (hb hby at_80) (by decide) (by decide) k_) ?_
          refine own_st (T' := T32) (g' := (mkF m 86 #[.val (.int p1), .val (.int p2), .val (.int (1 : Int32)), .val (.int (1 : Int32)), .val (.int ((p1 &&& (2147483647 : Int32)) % (3 : Int32))), .val (.ref w_INTERSECTION), .val (.int (1 : Int32))] [])) (fun t_ k_ => XS.istore X32.here hx rfl (hb hby at_84) rfl (l' := #[.val (.int p1), .val (.int p2), .val (.int (1 : Int32)), .val (.int (1 : Int32)), .val (.int ((p1 &&& (2147483647 : Int32)) % (3 : Int32))), .val (.ref w_INTERSECTION), .val (.int (1 : Int32))]) rfl k_) ?_
          refine own_st (T' := T32) (g' := (mkF m 109 #[.val (.int p1), .val (.int p2), .val (.int (1 : Int32)), .val (.int (1 : Int32)), .val (.int ((p1 &&& (2147483647 : Int32)) % (3 : Int32))), .val (.ref w_INTERSECTION), .val (.int (1 : Int32))] [])) (fun t_ k_ => XS.goto X32.here hx rfl (pc0 := 86) (pc' := 109) rfl (hb hby at_86) (by decide) (by decide) k_) ?_
          refine own_st (T' := T32) (g' := (mkF m 111 #[.val (.int p1), .val (.int p2), .val (.int (1 : Int32)), .val (.int (1 : Int32)), .val (.int ((p1 &&& (2147483647 : Int32)) % (3 : Int32))), .val (.ref w_INTERSECTION), .val (.int (1 : Int32))] [(.ref w_INTERSECTION)])) (fun t_ k_ => XS.aload X32.here hx rfl (hb hby at_109) rfl rfl  k_) ?_
          refine own_st (T' := T32) (g' := (mkF m 112 #[.val (.int p1), .val (.int p2), .val (.int (1 : Int32)), .val (.int (1 : Int32)), .val (.int ((p1 &&& (2147483647 : Int32)) % (3 : Int32))), .val (.ref w_INTERSECTION), .val (.int (1 : Int32))] [(.int (1 : Int32)), (.ref w_INTERSECTION)])) (fun t_ k_ => XS.iloadN X32.here hx rfl (hb hby at_111) rfl  k_) ?_
          refine own_st (T' := T32) (g' := (mkF m 113 #[.val (.int p1), .val (.int p2), .val (.int (1 : Int32)), .val (.int (1 : Int32)), .val (.int ((p1 &&& (2147483647 : Int32)) % (3 : Int32))), .val (.ref w_INTERSECTION), .val (.int (1 : Int32))] [(.int (1 : Int32)), (.int (1 : Int32)), (.ref w_INTERSECTION)])) (fun t_ k_ => XS.iloadN X32.here hx rfl (hb hby at_112) rfl  k_) ?_
          obtain ⟨cq33, kq33, q33a, q33b, q33c⟩ := isOf hZ e32 (X_INTERSECTION.ext O0.2)
          obtain ⟨_, _, ⟨T33, L33, k33, n33⟩, -, X33, ⟨Lc33, hQ33, l33, y33, z33⟩, st33⟩ := X32.virtualBack hx (y := (⟨"com/example/ixora/ixora/membership/CompositeType", "includes", "(ZZ)Z"⟩ : MethodName)) (z := (⟨"com/example/ixora/ixora/membership/CompositeType", "includes", "(ZZ)Z"⟩ : MethodName)) hown (mvT hZ (hw _ (List.mem_of_getElem? (i := 4) rfl))) (mvT hZ (hw _ (List.mem_of_getElem? (i := 5) rfl))) (notFace_of_selects (args := #[]) (mvT hZ (hw _ (List.mem_of_getElem? (i := 7) rfl)))) (mvT hZ (hw _ (List.mem_of_getElem? (i := 7) rfl))) (mvT hZ (hw _ (List.mem_of_getElem? (i := 6) rfl))) (by decide) (backOf (W := 0) (rm_inc l Z a0 hw [] w_INTERSECTION (1 : Int32) (1 : Int32) (1 : Int32) (0 : Int32) (0 : Int32) h0 n0 O0 F_INTERSECTION_both F_INTERSECTION_leftOnly F_INTERSECTION_rightOnly) hZ (hw _ (List.mem_of_getElem? (i := 8) rfl)) (hw _ (List.mem_of_getElem? (i := 2) rfl)) (by decide) (by decide)) q33a q33c (g := (mkF m 113 #[.val (.int p1), .val (.int p2), .val (.int (1 : Int32)), .val (.int (1 : Int32)), .val (.int ((p1 &&& (2147483647 : Int32)) % (3 : Int32))), .val (.ref w_INTERSECTION), .val (.int (1 : Int32))] [(.int (1 : Int32)), (.int (1 : Int32)), (.ref w_INTERSECTION)])) rfl (by rw [hml]; rfl) (Steps.refl _) (argsL := [(.int (1 : Int32)), (.int (1 : Int32))]) (rest := []) (lenOf pd__ZZ_Z rfl) rfl (by show 2 * 0 + _ ≤ _; exact Nat.le_of_eq rfl) (hb hby at_113) (fun _ _ => ⟨rfl, e32, (by decide : 0 + 0 ≤ _), (by decide : 0 + 0 ≤ _)⟩)
          dsimp only [Pt.U, Pt.locs, Pt.cells, Pt.slots] at X33 l33 y33 z33 st33 hQ33
          subst l33 y33 z33
          obtain ⟨rfl, Nq33, eq33⟩ := hQ33
          have N33 := Fr.app N0 Nq33
          refine own_st (T' := T33) (g' := (mkF m 116 #[.val (.int p1), .val (.int p2), .val (.int (1 : Int32)), .val (.int (1 : Int32)), .val (.int ((p1 &&& (2147483647 : Int32)) % (3 : Int32))), .val (.ref w_INTERSECTION), .val (.int (1 : Int32))] [(.int (own_inc (1 : Int32) (1 : Int32) (1 : Int32) (0 : Int32) (0 : Int32)))])) (fun t_ k_ => st33.trans k_) ?_
          refine own_st (T' := T33) (g' := (mkF m 118 #[.val (.int p1), .val (.int p2), .val (.int (1 : Int32)), .val (.int (1 : Int32)), .val (.int ((p1 &&& (2147483647 : Int32)) % (3 : Int32))), .val (.ref w_INTERSECTION), .val (.int (1 : Int32))] [(.int (1 : Int32)), (.int (own_inc (1 : Int32) (1 : Int32) (1 : Int32) (0 : Int32) (0 : Int32)))])) (fun t_ k_ => XS.iload X33.here hx rfl (hb hby at_116) rfl  k_) ?_
          refine own_st (T' := T33) (g' := (mkF m 121 #[.val (.int p1), .val (.int p2), .val (.int (1 : Int32)), .val (.int (1 : Int32)), .val (.int ((p1 &&& (2147483647 : Int32)) % (3 : Int32))), .val (.ref w_INTERSECTION), .val (.int (1 : Int32))] [])) (fun t_ k_ => XS.icmpNo X33.here hx rfl (hb hby at_118) rfl (teq (by decide : (own_inc (1 : Int32) (1 : Int32) (1 : Int32) (0 : Int32) (0 : Int32)) = (1 : Int32))).2 k_) ?_
          refine own_st (T' := T33) (g' := (mkF m 122 #[.val (.int p1), .val (.int p2), .val (.int (1 : Int32)), .val (.int (1 : Int32)), .val (.int ((p1 &&& (2147483647 : Int32)) % (3 : Int32))), .val (.ref w_INTERSECTION), .val (.int (1 : Int32))] [(.int (1 : Int32))])) (fun t_ k_ => XS.iconst X33.here hx rfl (hb hby at_121) k_) ?_
          refine own_st (T' := T33) (g' := (mkF m 126 #[.val (.int p1), .val (.int p2), .val (.int (1 : Int32)), .val (.int (1 : Int32)), .val (.int ((p1 &&& (2147483647 : Int32)) % (3 : Int32))), .val (.ref w_INTERSECTION), .val (.int (1 : Int32))] [(.int (1 : Int32))])) (fun t_ k_ => XS.goto X33.here hx rfl (pc0 := 122) (pc' := 126) rfl (hb hby at_122) (by decide) (by decide) k_) ?_
          exact own_retN X33 hx (t := .boolean) hret (by simp) hlk (hb hby at_126) (by decide) (by decide) ⟨rfl, N33⟩
        · refine own_st (T' := s₁) (g' := (mkF m 89 #[.val (.int p1), .val (.int p2), .val (.int (1 : Int32)), .val (.int (1 : Int32)), .val (.int ((p1 &&& (2147483647 : Int32)) % (3 : Int32))), .unset, .unset] [])) (fun t_ k_ => XS.icmpYes X0.here hx rfl (pc0 := 63) (pc' := 89) rfl (hb hby at_63) rfl (feq hc31).2 (by decide) (by decide) k_) ?_
          obtain ⟨T34, X34, e34, st34⟩ := getS2 X0 hx hZ hown (host := "") (Or.inl (hw _ (List.mem_of_getElem? (i := 11) rfl))) Via.refl e0 (S_COMPLEMENT.ext O0.2) (g := (mkF m 89 #[.val (.int p1), .val (.int p2), .val (.int (1 : Int32)), .val (.int (1 : Int32)), .val (.int ((p1 &&& (2147483647 : Int32)) % (3 : Int32))), .unset, .unset] [])) rfl (hb hby at_89)
          refine own_st (T' := T34) (g' := (mkF m 92 #[.val (.int p1), .val (.int p2), .val (.int (1 : Int32)), .val (.int (1 : Int32)), .val (.int ((p1 &&& (2147483647 : Int32)) % (3 : Int32))), .unset, .unset] [(.ref w_COMPLEMENT)])) st34 ?_
          refine own_st (T' := T34) (g' := (mkF m 94 #[.val (.int p1), .val (.int p2), .val (.int (1 : Int32)), .val (.int (1 : Int32)), .val (.int ((p1 &&& (2147483647 : Int32)) % (3 : Int32))), .val (.ref w_COMPLEMENT), .unset] [])) (fun t_ k_ => XS.astore X34.here hx rfl (hb hby at_92) rfl rfl (l' := #[.val (.int p1), .val (.int p2), .val (.int (1 : Int32)), .val (.int (1 : Int32)), .val (.int ((p1 &&& (2147483647 : Int32)) % (3 : Int32))), .val (.ref w_COMPLEMENT), .unset]) rfl k_) ?_
          refine own_st (T' := T34) (g' := (mkF m 95 #[.val (.int p1), .val (.int p2), .val (.int (1 : Int32)), .val (.int (1 : Int32)), .val (.int ((p1 &&& (2147483647 : Int32)) % (3 : Int32))), .val (.ref w_COMPLEMENT), .unset] [(.int (1 : Int32))])) (fun t_ k_ => XS.iloadN X34.here hx rfl (hb hby at_94) rfl  k_) ?_
          refine own_st (T' := T34) (g' := (mkF m 98 #[.val (.int p1), .val (.int p2), .val (.int (1 : Int32)), .val (.int (1 : Int32)), .val (.int ((p1 &&& (2147483647 : Int32)) % (3 : Int32))), .val (.ref w_COMPLEMENT), .unset] [])) (fun t_ k_ => XS.ifNo X34.here hx rfl (hb hby at_95) rfl ((if0 _ _).trans (feq (by decide : ¬ ((1 : Int32) = (0 : Int32)))).1) k_) ?_
          refine own_st (T' := T34) (g' := (mkF m 99 #[.val (.int p1), .val (.int p2), .val (.int (1 : Int32)), .val (.int (1 : Int32)), .val (.int ((p1 &&& (2147483647 : Int32)) % (3 : Int32))), .val (.ref w_COMPLEMENT), .unset] [(.int (1 : Int32))])) (fun t_ k_ => XS.iloadN X34.here hx rfl (hb hby at_98) rfl  k_) ?_
          refine own_st (T' := T34) (g' := (mkF m 106 #[.val (.int p1), .val (.int p2), .val (.int (1 : Int32)), .val (.int (1 : Int32)), .val (.int ((p1 &&& (2147483647 : Int32)) % (3 : Int32))), .val (.ref w_COMPLEMENT), .unset] [])) (fun t_ k_ => XS.ifYes X34.here hx rfl (pc0 := 99) (pc' := 106) rfl (hb hby at_99) rfl ((if0 _ _).trans (feq (by decide : ¬ ((1 : Int32) = (0 : Int32)))).2) (by decide) (by decide) k_) ?_
          refine own_st (T' := T34) (g' := (mkF m 107 #[.val (.int p1), .val (.int p2), .val (.int (1 : Int32)), .val (.int (1 : Int32)), .val (.int ((p1 &&& (2147483647 : Int32)) % (3 : Int32))), .val (.ref w_COMPLEMENT), .unset] [(.int (0 : Int32))])) (fun t_ k_ => XS.iconst X34.here hx rfl (hb hby at_106) k_) ?_
          refine own_st (T' := T34) (g' := (mkF m 109 #[.val (.int p1), .val (.int p2), .val (.int (1 : Int32)), .val (.int (1 : Int32)), .val (.int ((p1 &&& (2147483647 : Int32)) % (3 : Int32))), .val (.ref w_COMPLEMENT), .val (.int (0 : Int32))] [])) (fun t_ k_ => XS.istore X34.here hx rfl (hb hby at_107) rfl (l' := #[.val (.int p1), .val (.int p2), .val (.int (1 : Int32)), .val (.int (1 : Int32)), .val (.int ((p1 &&& (2147483647 : Int32)) % (3 : Int32))), .val (.ref w_COMPLEMENT), .val (.int (0 : Int32))]) rfl k_) ?_
          refine own_st (T' := T34) (g' := (mkF m 111 #[.val (.int p1), .val (.int p2), .val (.int (1 : Int32)), .val (.int (1 : Int32)), .val (.int ((p1 &&& (2147483647 : Int32)) % (3 : Int32))), .val (.ref w_COMPLEMENT), .val (.int (0 : Int32))] [(.ref w_COMPLEMENT)])) (fun t_ k_ => XS.aload X34.here hx rfl (hb hby at_109) rfl rfl  k_) ?_
          refine own_st (T' := T34) (g' := (mkF m 112 #[.val (.int p1), .val (.int p2), .val (.int (1 : Int32)), .val (.int (1 : Int32)), .val (.int ((p1 &&& (2147483647 : Int32)) % (3 : Int32))), .val (.ref w_COMPLEMENT), .val (.int (0 : Int32))] [(.int (1 : Int32)), (.ref w_COMPLEMENT)])) (fun t_ k_ => XS.iloadN X34.here hx rfl (hb hby at_111) rfl  k_) ?_
          refine own_st (T' := T34) (g' := (mkF m 113 #[.val (.int p1), .val (.int p2), .val (.int (1 : Int32)), .val (.int (1 : Int32)), .val (.int ((p1 &&& (2147483647 : Int32)) % (3 : Int32))), .val (.ref w_COMPLEMENT), .val (.int (0 : Int32))] [(.int (1 : Int32)), (.int (1 : Int32)), (.ref w_COMPLEMENT)])) (fun t_ k_ => XS.iloadN X34.here hx rfl (hb hby at_112) rfl  k_) ?_
          obtain ⟨cq35, kq35, q35a, q35b, q35c⟩ := isOf hZ e34 (X_COMPLEMENT.ext O0.2)
          obtain ⟨_, _, ⟨T35, L35, k35, n35⟩, -, X35, ⟨Lc35, hQ35, l35, y35, z35⟩, st35⟩ := X34.virtualBack hx (y := (⟨"com/example/ixora/ixora/membership/CompositeType", "includes", "(ZZ)Z"⟩ : MethodName)) (z := (⟨"com/example/ixora/ixora/membership/CompositeType", "includes", "(ZZ)Z"⟩ : MethodName)) hown (mvT hZ (hw _ (List.mem_of_getElem? (i := 4) rfl))) (mvT hZ (hw _ (List.mem_of_getElem? (i := 5) rfl))) (notFace_of_selects (args := #[]) (mvT hZ (hw _ (List.mem_of_getElem? (i := 7) rfl)))) (mvT hZ (hw _ (List.mem_of_getElem? (i := 7) rfl))) (mvT hZ (hw _ (List.mem_of_getElem? (i := 6) rfl))) (by decide) (backOf (W := 0) (rm_inc l Z a0 hw [] w_COMPLEMENT (1 : Int32) (1 : Int32) (0 : Int32) (1 : Int32) (0 : Int32) h0 n0 O0 F_COMPLEMENT_both F_COMPLEMENT_leftOnly F_COMPLEMENT_rightOnly) hZ (hw _ (List.mem_of_getElem? (i := 8) rfl)) (hw _ (List.mem_of_getElem? (i := 2) rfl)) (by decide) (by decide)) q35a q35c (g := (mkF m 113 #[.val (.int p1), .val (.int p2), .val (.int (1 : Int32)), .val (.int (1 : Int32)), .val (.int ((p1 &&& (2147483647 : Int32)) % (3 : Int32))), .val (.ref w_COMPLEMENT), .val (.int (0 : Int32))] [(.int (1 : Int32)), (.int (1 : Int32)), (.ref w_COMPLEMENT)])) rfl (by rw [hml]; rfl) (Steps.refl _) (argsL := [(.int (1 : Int32)), (.int (1 : Int32))]) (rest := []) (lenOf pd__ZZ_Z rfl) rfl (by show 2 * 0 + _ ≤ _; exact Nat.le_of_eq rfl) (hb hby at_113) (fun _ _ => ⟨rfl, e34, (by decide : 0 + 0 ≤ _), (by decide : 0 + 0 ≤ _)⟩)
          dsimp only [Pt.U, Pt.locs, Pt.cells, Pt.slots] at X35 l35 y35 z35 st35 hQ35
          subst l35 y35 z35
          obtain ⟨rfl, Nq35, eq35⟩ := hQ35
          have N35 := Fr.app N0 Nq35
          refine own_st (T' := T35) (g' := (mkF m 116 #[.val (.int p1), .val (.int p2), .val (.int (1 : Int32)), .val (.int (1 : Int32)), .val (.int ((p1 &&& (2147483647 : Int32)) % (3 : Int32))), .val (.ref w_COMPLEMENT), .val (.int (0 : Int32))] [(.int (own_inc (1 : Int32) (1 : Int32) (0 : Int32) (1 : Int32) (0 : Int32)))])) (fun t_ k_ => st35.trans k_) ?_
          refine own_st (T' := T35) (g' := (mkF m 118 #[.val (.int p1), .val (.int p2), .val (.int (1 : Int32)), .val (.int (1 : Int32)), .val (.int ((p1 &&& (2147483647 : Int32)) % (3 : Int32))), .val (.ref w_COMPLEMENT), .val (.int (0 : Int32))] [(.int (0 : Int32)), (.int (own_inc (1 : Int32) (1 : Int32) (0 : Int32) (1 : Int32) (0 : Int32)))])) (fun t_ k_ => XS.iload X35.here hx rfl (hb hby at_116) rfl  k_) ?_
          refine own_st (T' := T35) (g' := (mkF m 121 #[.val (.int p1), .val (.int p2), .val (.int (1 : Int32)), .val (.int (1 : Int32)), .val (.int ((p1 &&& (2147483647 : Int32)) % (3 : Int32))), .val (.ref w_COMPLEMENT), .val (.int (0 : Int32))] [])) (fun t_ k_ => XS.icmpNo X35.here hx rfl (hb hby at_118) rfl (teq (by decide : (own_inc (1 : Int32) (1 : Int32) (0 : Int32) (1 : Int32) (0 : Int32)) = (0 : Int32))).2 k_) ?_
          refine own_st (T' := T35) (g' := (mkF m 122 #[.val (.int p1), .val (.int p2), .val (.int (1 : Int32)), .val (.int (1 : Int32)), .val (.int ((p1 &&& (2147483647 : Int32)) % (3 : Int32))), .val (.ref w_COMPLEMENT), .val (.int (0 : Int32))] [(.int (1 : Int32))])) (fun t_ k_ => XS.iconst X35.here hx rfl (hb hby at_121) k_) ?_
          refine own_st (T' := T35) (g' := (mkF m 126 #[.val (.int p1), .val (.int p2), .val (.int (1 : Int32)), .val (.int (1 : Int32)), .val (.int ((p1 &&& (2147483647 : Int32)) % (3 : Int32))), .val (.ref w_COMPLEMENT), .val (.int (0 : Int32))] [(.int (1 : Int32))])) (fun t_ k_ => XS.goto X35.here hx rfl (pc0 := 122) (pc' := 126) rfl (hb hby at_122) (by decide) (by decide) k_) ?_
          exact own_retN X35 hx (t := .boolean) hret (by simp) hlk (hb hby at_126) (by decide) (by decide) ⟨rfl, N35⟩
set_option maxRecDepth 65536 in
set_option maxHeartbeats 40000000 in
theorem comes_1 {Post : Tables → Env → Array Value → State → Outcome → State → Prop} (hpost : ∀ tb e args s v u, (limb_1_1.after args s (.returned v) u = true ∧ limb_1_2.after args s (.returned v) u = true ∧ True) → FrameEnd s (.returned v) u (Jvm.fieldLocs frame_1_writes args s ++ Jvm.arrayLocs frame_1_arrays args s ++ Jvm.staticLocs frame_1_statics s) 0 0 → Post tb e args s (.returned v) u) :
    ArmFor flags0 classFile x code maxLocals ret World_1 tables_1 room_1 Calls_1 rest_1 Pre_1 Post := by
  intro l hfl _ _ p e ha hc hk s m args below hf hA hF happ hP
  obtain ⟨hcalls, hrest, hpre⟩ := hP
  obtain ⟨-, -, -, hnamed, -, -, -, hat⟩ := (Spec.applies_iff hf).mp happ
  obtain ⟨hg, hn⟩ := and_e (Cond.before_iff.mp (show (Jvm.Cond.and given_1 narrow_1).before args s = true from hpre))
  obtain ⟨u1a, u1b⟩ := and_e hg
  obtain ⟨u2a, u2b⟩ := and_e u1b
  obtain ⟨v0, v1, rfl⟩ : ∃ v0 v1 : Value, args = #[v0, v1] := by
    have hs : args.size = 2 := by simpa [Cond.value, given_1] using u1a
    obtain ⟨L⟩ := args
    match L, hs with
    | [v0, v1], _ => exact ⟨v0, v1, rfl⟩
  have hw := fun d (hd : d ∈ tables_1) => atoms_spec (ws := Jvm.Cond.code x code maxLocals ret :: tables_1) hat d (List.mem_cons_of_mem _ hd)
  have hfit : Fit s := fun {y c} hc i hi => by
    obtain ⟨ha, rfl⟩ := Array.getElem?_eq_some_iff.mp hc
    have q := List.all_eq_true.mp ((Array.all_eq_true_iff_forall_mem.mp hF) _ (Array.getElem_mem ha)) i (List.mem_range.mpr hi)
    simpa [Array.getElem?_eq_getElem hi] using q
  obtain ⟨i0, ei0⟩ := is_v u2a
  obtain rfl : v0 = (.int i0) := Option.some.inj ei0
  obtain ⟨i1, ei1⟩ := is_v u2b
  obtain rfl : v1 = (.int i1) := Option.some.inj ei1
  obtain ⟨u3a, u3b⟩ := and_e hn
  obtain ⟨u4a, u4b⟩ := and_e u3b
  obtain ⟨u5a, u5b⟩ := and_e u4b
  obtain ⟨u6a, u6b⟩ := and_e u5b
  obtain ⟨u7a, u7b⟩ := and_e u6b
  obtain ⟨u8a, u8b⟩ := and_e u7b
  obtain ⟨u9a, u9b⟩ := and_e u8b
  obtain ⟨u10a, u10b⟩ := and_e u9b
  obtain ⟨u11a, u11b⟩ := and_e u10b
  obtain ⟨u12a, u12b⟩ := and_e u11b
  obtain ⟨u13a, u13b⟩ := and_e u12b
  obtain ⟨w_UNION, ev_UNION⟩ := exa_v u3a
  have S_UNION := Sta.start ev_UNION (Or.inr ⟨(hw _ (List.mem_of_getElem? (i := 2) rfl)), (hw _ (List.mem_of_getElem? (i := 3) rfl))⟩)
  have X_UNION := Exa.start ev_UNION u3a
  obtain ⟨w_COMPLEMENT, ev_COMPLEMENT⟩ := exa_v u5a
  have S_COMPLEMENT := Sta.start ev_COMPLEMENT (Or.inr ⟨(hw _ (List.mem_of_getElem? (i := 2) rfl)), (hw _ (List.mem_of_getElem? (i := 12) rfl))⟩)
  have X_COMPLEMENT := Exa.start ev_COMPLEMENT u5a
  obtain ⟨w_INTERSECTION, ev_INTERSECTION⟩ := exa_v u7a
  have S_INTERSECTION := Sta.start ev_INTERSECTION (Or.inr ⟨(hw _ (List.mem_of_getElem? (i := 2) rfl)), (hw _ (List.mem_of_getElem? (i := 16) rfl))⟩)
  have X_INTERSECTION := Exa.start ev_INTERSECTION u7a
  have F_UNION_both := own_fld0 ev_UNION u4a
  have F_COMPLEMENT_leftOnly := own_fld0 ev_COMPLEMENT u6a
  have F_INTERSECTION_leftOnly := own_fld0 ev_INTERSECTION u8a
  have F_COMPLEMENT_both := own_fld0 ev_COMPLEMENT u9a
  have F_UNION_leftOnly := own_fld0 ev_UNION u10a
  have F_COMPLEMENT_rightOnly := own_fld0 ev_COMPLEMENT u11a
  have F_INTERSECTION_both := own_fld0 ev_INTERSECTION u12a
  have F_INTERSECTION_rightOnly := own_fld0 ev_INTERSECTION u13a
  have F_UNION_rightOnly := own_fld0 ev_UNION u13b
  obtain ⟨n, o, h1, h2, h3, _, L, rfl, ⟨rfl, N⟩, hq⟩ := rm_0 l s _ hw tables_1 i0 i1 w_UNION w_INTERSECTION w_COMPLEMENT s.heap s.heap.size (Old.start s) S_UNION S_INTERSECTION S_COMPLEMENT X_UNION X_INTERSECTION X_COMPLEMENT F_UNION_both F_UNION_leftOnly F_UNION_rightOnly F_INTERSECTION_both F_INTERSECTION_leftOnly F_INTERSECTION_rightOnly F_COMPLEMENT_both F_COMPLEMENT_leftOnly F_COMPLEMENT_rightOnly p e ha hc hk s m _ below hf ((Spec.applies_iff_loose hf).mp happ).1 ⟨rfl, State.Warmed39.refl s, rfl⟩ trivial
  refine ⟨n, _, h1, h2, h3, hpost _ _ _ _ _ _ ⟨Cond.after_iff.mpr rfl, Cond.after_iff.mpr (eq_i res_at (Term.int_eval (1)) rfl), trivial⟩ ⟨hq.1, hq.2.1, (hq.2.2.sift fun y hy => Or.inr (N y hy)).mono (by decide) (by decide)⟩⟩
theorem main_1_1 : Claimed_1_1 := comes_1 fun _ _ _ _ _ _ h hF => ⟨h.1, hF⟩
theorem main_1_2 : Claimed_1_2 := comes_1 fun _ _ _ _ _ _ h hF => ⟨h.2.1, hF⟩
end Jvm.Pilot.@@N@@
namespace Jvm.Pilot.@@N@@
open Jvm Jvm.ClassFile Sem Op Lib Jvm.Free Jvm.Stand Jvm.Pilot.@@N@@.Jvm.D
/-! MADE BY PROGRAM (witnessworld.py) out of the Statement's table words and the real class files: 12 classes; the members and pool entries that the words name. The judged class is class 1, her method 1. -/
namespace start1
open Jvm.ClassFile
def u (s : String) : CpInfo := .utf8 (stringToUtf16 s)
/-- a pool by its gaps: so many unusable entries, then the entry; so many at the end -/
def gap : Nat → List CpInfo → List CpInfo
  | 0, r => r
  | n + 1, r => .unusable :: gap n r
def poolList (es : List (Nat × CpInfo)) (last : Nat) : List CpInfo := es.foldr (fun e r => gap e.1 (e.2 :: r)) (gap last [])
def pool (es : List (Nat × CpInfo)) (last : Nat) : Array CpInfo := ⟨poolList es last⟩
def fileOf (pool : Array CpInfo) (this : Nat) (attrs : Array Attribute := #[]) (ms : Array MethodInfo := #[]) (fl : Nat := 33) (sup : Nat := 0) (ifs : Array Nat := #[]) (fds : Array FieldInfo := #[]) : ClassFile where
  minorVersion := 0
  majorVersion := 65
  constantPool := pool
  accessFlags := fl
  thisClass := this
  superClass := sup
  interfaces := ifs
  fields := fds
  methods := ms
  attributes := attrs
def plain (name : String) (sup : Option ClassId) : Class where
  name := name
  kind := .ordinary
  loader := none
  accessFlags := 33
  super := sup
  interfaces := #[]
  cf := none
  fields := #[]
  methods := #[]
  instanceTypes := #[]
  staticTypes := #[]
  resolved := #[]
  callSites := []
  init := .initialized
  statics := none
  mirror := none

def pool0 : Array CpInfo := pool [(5, u "<init>"), (0, u "()V"), (1, .class_ 10), (1, u "java/lang/Object")] 113

def k0m0 : Method := { name := "<init>", desc := "()V", sig := { parameters := [], returnType := none }, accessFlags := 1, code := none }
/-- java/lang/Object -/
def k0 : Class := { plain "java/lang/Object" none with
  accessFlags := 33
  interfaces := #[]
  cf := some (fileOf pool0 8 #[] #[{ accessFlags := 1, nameIndex := 5, descriptorIndex := 6, attributes := #[] }] 33 0 #[] #[])
  fields := #[]
  methods := #[k0m0]
  instanceTypes := #[]
  staticTypes := #[]
  resolved := Array.replicate 124 none
  statics := none }

def pool1 : Array CpInfo := pool [(2, .class_ 4), (1, u "java/lang/Object"), (0, u "<init>"), (0, u "()V"), (0, .integer 2147483647), (0, .fieldref 9 10), (0, .class_ 11), (0, .nameAndType 12 13), (0, u "com/example/ixora/ixora/membership/CompositeType"), (0, u "UNION"), (0, u "Lcom/example/ixora/ixora/membership/CompositeType;"), (0, .fieldref 9 15), (0, .nameAndType 16 13), (0, u "INTERSECTION"), (0, .fieldref 9 18), (0, .nameAndType 19 13), (0, u "COMPLEMENT"), (0, .methodref 9 21), (0, .nameAndType 22 23), (0, u "includes"), (0, u "(ZZ)Z"), (0, .class_ 25), (0, u "com/example/ixora/ixora/membership/CompositeTypeIncludesPinLaw"), (2, u "law"), (0, u "(II)Z")] 3

def k1m0 : Method := { name := "<init>", desc := "()V", sig := { parameters := [], returnType := none }, accessFlags := 1, code := none }
def k1c1 : Code := { maxStack := 3, maxLocals := 7, code := code, exceptionTable := #[], attributes := #[] }
def k1m1 : Method := { name := "law", desc := "(II)Z", sig := { parameters := [.int, .int], returnType := some .boolean }, accessFlags := 9, code := some k1c1 }
/-- com/example/ixora/ixora/membership/CompositeTypeIncludesPinLaw -/
def k1 : Class := { plain "com/example/ixora/ixora/membership/CompositeTypeIncludesPinLaw" (some 0) with
  accessFlags := 49
  interfaces := #[]
  cf := some (fileOf pool1 24 #[] #[{ accessFlags := 1, nameIndex := 5, descriptorIndex := 6, attributes := #[] }, { accessFlags := 9, nameIndex := 28, descriptorIndex := 29, attributes := #[] }] 49 2 #[] #[])
  fields := #[]
  methods := #[k1m0, k1m1]
  instanceTypes := #[]
  staticTypes := #[]
  resolved := Array.replicate 33 none
  statics := none }

def pool2 : Array CpInfo := pool [(1, .class_ 2), (0, u "java/lang/constant/Constable"), (0, .class_ 4), (0, u "java/lang/Object")] 6

/-- java/lang/constant/Constable -/
def k2 : Class := { plain "java/lang/constant/Constable" (some 0) with
  accessFlags := 1537
  interfaces := #[]
  cf := some (fileOf pool2 1 #[] #[] 1537 3 #[] #[])
  fields := #[]
  methods := #[]
  instanceTypes := #[]
  staticTypes := #[]
  resolved := Array.replicate 11 none
  statics := none }

def pool3 : Array CpInfo := pool [(1, .class_ 2), (0, u "java/lang/Comparable"), (0, .class_ 4), (0, u "java/lang/Object")] 7

/-- java/lang/Comparable -/
def k3 : Class := { plain "java/lang/Comparable" (some 0) with
  accessFlags := 1537
  interfaces := #[]
  cf := some (fileOf pool3 1 #[] #[] 1537 3 #[] #[])
  fields := #[]
  methods := #[]
  instanceTypes := #[]
  staticTypes := #[]
  resolved := Array.replicate 12 none
  statics := none }

def pool4 : Array CpInfo := pool [(1, .class_ 2), (0, u "java/io/Serializable"), (0, .class_ 4), (0, u "java/lang/Object")] 2

/-- java/io/Serializable -/
def k4 : Class := { plain "java/io/Serializable" (some 0) with
  accessFlags := 1537
  interfaces := #[]
  cf := some (fileOf pool4 1 #[] #[] 1537 3 #[] #[])
  fields := #[]
  methods := #[]
  instanceTypes := #[]
  staticTypes := #[]
  resolved := Array.replicate 7 none
  statics := none }

def pool5 : Array CpInfo := pool [(2, .class_ 4), (1, u "java/lang/Enum"), (0, u "name"), (0, u "Ljava/lang/String;"), (2, u "ordinal"), (0, u "I"), (1, .class_ 14), (1, u "java/lang/Object"), (4, u "hash"), (86, .class_ 108), (1, u "java/lang/Enum$EnumDesc"), (2, .class_ 112), (0, u "java/lang/constant/Constable"), (0, .class_ 114), (0, u "java/lang/Comparable"), (0, .class_ 116), (0, u "java/io/Serializable")] 87

/-- java/lang/Enum -/
def k5 : Class := { plain "java/lang/Enum" (some 0) with
  accessFlags := 1057
  interfaces := #[2, 3, 4]
  cf := some (fileOf pool5 2 #[.nestMembers #[106]] #[] 1057 12 #[111, 113, 115] #[{ accessFlags := 18, nameIndex := 5, descriptorIndex := 6, attributes := #[] }, { accessFlags := 18, nameIndex := 9, descriptorIndex := 10, attributes := #[] }, { accessFlags := 2, nameIndex := 19, descriptorIndex := 10, attributes := #[] }])
  fields := #[{ name := "name", type := (.object "java/lang/String"), accessFlags := 18, slot := 0, constantValue := 0 }, { name := "ordinal", type := .int, accessFlags := 18, slot := 1, constantValue := 0 }, { name := "hash", type := .int, accessFlags := 2, slot := 2, constantValue := 0 }]
  methods := #[]
  instanceTypes := #[(.object "java/lang/String"), .int, .int]
  staticTypes := #[]
  resolved := Array.replicate 204 none
  statics := none }

def pool6 : Array CpInfo := pool [(1, .class_ 2), (0, u "com/example/ixora/ixora/membership/CompositeType"), (2, u "UNION"), (0, u "Lcom/example/ixora/ixora/membership/CompositeType;"), (2, u "INTERSECTION"), (2, u "COMPLEMENT"), (2, u "$VALUES"), (0, u "[Lcom/example/ixora/ixora/membership/CompositeType;"), (6, .class_ 25), (1, u "java/lang/Enum"), (6, .fieldref 1 33), (0, .nameAndType 34 35), (0, u "leftOnly"), (0, u "Z"), (0, .fieldref 1 37), (0, .nameAndType 38 35), (0, u "both"), (0, .fieldref 1 40), (0, .nameAndType 41 35), (0, u "rightOnly"), (49, u "includes"), (0, u "(ZZ)Z")] 33

def k6c0 : Code := { maxStack := 1, maxLocals := 4, code := prog_20_method_7_code, exceptionTable := #[], attributes := #[] }
def k6m0 : Method := { name := "includes", desc := "(ZZ)Z", sig := { parameters := [.boolean, .boolean], returnType := some .boolean }, accessFlags := 0, code := some k6c0 }
/-- com/example/ixora/ixora/membership/CompositeType -/
def k6 : Class := { plain "com/example/ixora/ixora/membership/CompositeType" (some 5) with
  accessFlags := 16433
  interfaces := #[]
  cf := some (fileOf pool6 1 #[] #[{ accessFlags := 0, nameIndex := 91, descriptorIndex := 92, attributes := #[] }] 16433 23 #[] #[{ accessFlags := 16409, nameIndex := 5, descriptorIndex := 6, attributes := #[] }, { accessFlags := 16409, nameIndex := 9, descriptorIndex := 6, attributes := #[] }, { accessFlags := 16409, nameIndex := 12, descriptorIndex := 6, attributes := #[] }, { accessFlags := 18, nameIndex := 34, descriptorIndex := 35, attributes := #[] }, { accessFlags := 18, nameIndex := 38, descriptorIndex := 35, attributes := #[] }, { accessFlags := 18, nameIndex := 41, descriptorIndex := 35, attributes := #[] }, { accessFlags := 4122, nameIndex := 15, descriptorIndex := 16, attributes := #[] }])
  fields := #[{ name := "UNION", type := (.object "com/example/ixora/ixora/membership/CompositeType"), accessFlags := 16409, slot := 0, constantValue := 0 }, { name := "INTERSECTION", type := (.object "com/example/ixora/ixora/membership/CompositeType"), accessFlags := 16409, slot := 1, constantValue := 0 }, { name := "COMPLEMENT", type := (.object "com/example/ixora/ixora/membership/CompositeType"), accessFlags := 16409, slot := 2, constantValue := 0 }, { name := "leftOnly", type := .boolean, accessFlags := 18, slot := 3, constantValue := 0 }, { name := "both", type := .boolean, accessFlags := 18, slot := 4, constantValue := 0 }, { name := "rightOnly", type := .boolean, accessFlags := 18, slot := 5, constantValue := 0 }, { name := "$VALUES", type := (.array (.object "com/example/ixora/ixora/membership/CompositeType")), accessFlags := 4122, slot := 3, constantValue := 0 }]
  methods := #[k6m0]
  instanceTypes := #[(.object "java/lang/String"), .int, .int, .boolean, .boolean, .boolean]
  staticTypes := #[(.object "com/example/ixora/ixora/membership/CompositeType"), (.object "com/example/ixora/ixora/membership/CompositeType"), (.object "com/example/ixora/ixora/membership/CompositeType"), (.array (.object "com/example/ixora/ixora/membership/CompositeType"))]
  resolved := Array.replicate 126 none
  statics := some 0 }

def pool7 : Array CpInfo := pool [(1, u "java/lang/Cloneable"), (0, .class_ 1), (0, u "java/lang/Object"), (0, .class_ 3)] 3

/-- java/lang/Cloneable -/
def k7 : Class := { plain "java/lang/Cloneable" (some 0) with
  accessFlags := 1537
  interfaces := #[]
  cf := some (fileOf pool7 2 #[] #[] 1537 4 #[] #[])
  fields := #[]
  methods := #[]
  instanceTypes := #[]
  staticTypes := #[]
  resolved := Array.replicate 8 none
  statics := none }

/-- the primitive byte -/
def k8 : Class := { plain "byte" none with kind := .primitive 'B', accessFlags := 0x411 }
/-- [B -/
def k9 : Class := { plain "[B" (some 0) with kind := .array 8 .byte, interfaces := #[7, 4], accessFlags := 1041 }

/-- the primitive int -/
def k10 : Class := { plain "int" none with kind := .primitive 'I', accessFlags := 0x411 }
/-- [I -/
def k11 : Class := { plain "[I" (some 0) with kind := .array 10 .int, interfaces := #[7, 4], accessFlags := 1041 }

def heap : Heap := #[{ cls := 6, slots := #[.ref 1, .ref 2, .ref 3, .null], vm := .statics 6 },
  { cls := 6, slots := #[.null, .int 0, .int 0, .int 1, .int 1, .int 1], vm := .none },
  { cls := 6, slots := #[.null, .int 1, .int 0, .int 0, .int 1, .int 0], vm := .none },
  { cls := 6, slots := #[.null, .int 2, .int 0, .int 1, .int 0, .int 0], vm := .none }]
def classes : Array Class := #[k0, k1, k2, k3, k4, k5, k6, k7, k8, k9, k10, k11]
def interned : List (Array UInt16 × Addr) := []
def slotsUsed : Nat := 22
def theMethod : MethodId := ⟨1, 1⟩
def args0 : Array Value := #[.int 5, .int 3]
def aboutOver (below : List Frame) : State where
  vm := { classes := classes, interned := interned.toArray }
  heap := heap
  slotsUsed := slotsUsed
  threads := #[{ frames := .invoking theMethod args0 :: below }]
def below0 : List Frame := [.native { method := ⟨0, 0⟩, args := #[] }]
def about1 : State := aboutOver below0
def p0 : Program := .bare "" "" ""
def e0 : Env := launch0.env 0 0 0
theorem w_frames : about1.frames = Frame.invoking theMethod args0 :: below0 := rfl
set_option maxRecDepth 65536 in
theorem w_args : argsFit about1.vm theMethod args0 = true := by decide +kernel
set_option maxRecDepth 65536 in
theorem w_heap : heapFits about1 = true := by decide +kernel
set_option maxRecDepth 65536 in
theorem w_runnable : about1.curStatus? = some .runnable := by decide +kernel
set_option maxRecDepth 65536 in
theorem w_alone : about1.alone = true := by decide +kernel
set_option maxRecDepth 65536 in
theorem w_named : about1.methodNamed? x = some theMethod := by decide +kernel
set_option maxRecDepth 65536 in
theorem w_hears : about1.hears theMethod below0 = true := by decide +kernel
set_option maxRecDepth 65536 in
theorem w_ripe : about1.ripe theMethod args0 below0 = true := by decide +kernel
theorem w_running : about1.status = .running := rfl
set_option maxRecDepth 65536 in
theorem w_room : about1.hasRoom e0.platform room_1 = true :=
  launch0.hasRoom_least _ room_1 (by decide +kernel) (by decide +kernel) (by decide +kernel) (by decide +kernel) (by decide +kernel) (by decide +kernel)
theorem allAtoms_all (ts : List Jvm.Cond) (a : Array Jvm.Value) (st : Jvm.State) : (allAtoms ts).before a st = ts.all (fun c => c.before a st) := by
  induction ts with
  | nil => rfl
  | cons c t ih =>
    show (Jvm.Cond.and c (allAtoms t)).before a st = _
    rw [Jvm.Cond.before_and, ih, List.all_cons]
def words1 : List Jvm.Cond := Jvm.Cond.code x code maxLocals ret :: tables_1
/-- a 'code' word, met by the world's own term for the bytes: nothing is compared byte by byte -/
theorem code_word {y : MethodName} {bytes : ByteArray} {mx : Nat} {rt : Option FieldType} {a : Array Value} {s : State} {m : MethodId} {meth : Method} {c : Code} (h1 : s.methodNamed? y = some m) (h2 : s.vm.method? m = some meth) (h3 : meth.code = some c) (h4 : c.code = bytes)
    (h5 : (c.maxLocals == mx && c.exceptionTable.isEmpty && decide (c.maxStack ≤ mostOperands) && decide (meth.sig.returnType = rt) && !meth.locks && decide (parseMethodDescriptor y.desc = some meth.sig)) = true) : (Jvm.Cond.code y bytes mx rt).before a s = true := by
  simp only [Bool.and_eq_true, beq_iff_eq, Bool.not_eq_true', decide_eq_true_eq] at h5
  obtain ⟨⟨⟨⟨⟨g1, g2⟩, g3⟩, g4⟩, g5⟩, g6⟩ := h5
  simp [Cond.before, Cond.holds, Cond.value, h1, h2, h3, h4, g1, g2, g3, g4, g5, g6]
def isCode : Jvm.Cond → Bool
  | .code _ _ _ _ => true
  | _ => false
theorem all_split {L : List Jvm.Cond} {P : Jvm.Cond → Bool} (h1 : L.all (fun c => isCode c || P c) = true) (h2 : ∀ c ∈ L.filter isCode, P c = true) : L.all P = true := by
  refine List.all_eq_true.mpr fun c hc => ?_
  have h := List.all_eq_true.mp h1 c hc
  rcases Bool.eq_false_or_eq_true (isCode c) with hi | hi
  · exact h2 c (List.mem_filter.mpr ⟨hc, hi⟩)
  · simpa [hi] using h
set_option maxRecDepth 65536 in
theorem w_c0 : (Jvm.Cond.code x code maxLocals ret).before args0 about1 = true := code_word (m := ⟨1, 1⟩) (meth := k1m1) (c := k1c1) (by decide +kernel) rfl rfl rfl (by decide +kernel)
set_option maxRecDepth 65536 in
theorem w_c1 : (Jvm.Cond.code ({ cls := "com/example/ixora/ixora/membership/CompositeType", name := "includes", desc := "(ZZ)Z" } : Jvm.MethodName) prog_20_method_7_code (4 : Nat) (Option.some Jvm.ClassFile.FieldType.boolean)).before args0 about1 = true := code_word (m := ⟨6, 0⟩) (meth := k6m0) (c := k6c0) (by decide +kernel) rfl rfl rfl (by decide +kernel)
def codes1 : List Jvm.Cond := [Jvm.Cond.code x code maxLocals ret, Jvm.Cond.code ({ cls := "com/example/ixora/ixora/membership/CompositeType", name := "includes", desc := "(ZZ)Z" } : Jvm.MethodName) prog_20_method_7_code (4 : Nat) (Option.some Jvm.ClassFile.FieldType.boolean)]
set_option maxRecDepth 65536 in
theorem codes_eq : words1.filter isCode = codes1 := rfl
theorem w_codes : ∀ c ∈ words1.filter isCode, c.before args0 about1 = true := by
  rw [codes_eq]
  intro c hc
  simp only [codes1, List.mem_cons, List.not_mem_nil, or_false] at hc
  rcases hc with rfl | rfl
  · exact w_c0
  · exact w_c1
set_option maxRecDepth 65536 in
theorem w_t1 : words1.all (fun c => isCode c || c.before args0 about1) = true := by decide +kernel
theorem w_tables : (allAtoms (Jvm.Cond.code x code maxLocals ret :: tables_1)).before args0 about1 = true := by
  rw [allAtoms_all]
  show words1.all (fun c => c.before args0 about1) = true
  refine all_split ?_ w_codes
  rw [w_t1]
set_option maxRecDepth 65536 in
theorem w_case : (Jvm.Cond.and given_1 narrow_1).before args0 about1 = true := by decide +kernel
theorem w_applies : (headSpec (Jvm.Cond.code x code maxLocals ret :: tables_1) room_1).applies x e0.platform about1 = true :=
  (Spec.applies_iff w_frames).mpr ⟨w_running, w_runnable, w_alone, w_named, w_hears, w_ripe, w_room, w_tables⟩
theorem atStart : AtStart classFile x code maxLocals ret World_1 tables_1 room_1 Calls_1 rest_1 Pre_1 launch0 p0 e0 about1 theMethod args0 below0 :=
  ⟨lists_1, trivial, launch0.admits_env _ _ _, launch0.least_env, fairChoices_fair.cas, fairChoices_fair.clock, w_frames, w_args, w_heap, w_applies, trivial, trivial, w_case⟩
end start1
theorem witness_1 : WitnessClaimed_1 := ⟨start1.p0, start1.e0, start1.about1, start1.theMethod, start1.args0, start1.below0, start1.atStart⟩
end Jvm.Pilot.@@N@@
