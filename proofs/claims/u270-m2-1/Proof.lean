import JvmDerived
import JvmDerived.Pilot.@@N@@Statement
import JvmDerived.Pilot.@@N@@Code
set_option linter.unusedVariables false
set_option linter.unusedSimpArgs false
namespace Jvm.Pilot.@@N@@
open Jvm Jvm.ClassFile Sem Op Lib Jvm.Free Jvm.Stand Jvm.LawKit Jvm.RoadKit Bundle Jvm.Pilot.@@N@@.Jvm.D
/-- from the point (T, g) the body comes to its end, with what P says of value, heap and places -/
def own_E (p : Program) (e : Env) (below : List Frame) (s : State) (k n : Nat) (P : Option Value → Heap → List Loc → Prop) (T : State) (g : JFrame) : Prop :=
  ∃ s₂ o, Steps p.tables e below (T.setTop g) s₂ ∧ s₂.status = .running ∧ Ended s₂ below o ∧ ∃ v L, o = .returned v ∧ P v s₂.heap L ∧ FrameEnd s o s₂ L k n
/-- what a law leaves: true, and nothing old written -/
def own_L (n0 : Nat) (v : Option Value) (h : Heap) (L : List Loc) : Prop := v = some (.int (1 : Int32)) ∧ Fr n0 L
section Own
variable {p : Program} {l : Launch} {e : Env} {R : Room} {s : State} {m : MethodId} {args : Array Value} {below : List Frame} {meth : Method} {c : Code} {T T' : State} {locs : List Loc} {cells slots : Nat} {k n : Nat} {P : Option Value → Heap → List Loc → Prop} {g g' : JFrame}
theorem own_st (h : ∀ t, Steps p.tables e below (T'.setTop g') t → Steps p.tables e below (T.setTop g) t) (E : own_E p e below s k n P T' g') : own_E p e below s k n P T g := by
  obtain ⟨s₂, o, h1, r⟩ := E; exact ⟨s₂, o, h _ h1, r⟩
theorem own_end (X : Stand p l e R s m args below meth c T locs cells slots) {v : Option Value} (hv : meth.sig.returnType = none → v = none) (hlk : meth.locks = false) (hk : cells ≤ k) (hn : slots ≤ n) (hP : P v T.heap locs)
    (h : ∀ fs : List Frame, (∀ (f : JFrame) (acts : List Action), f.method = m → f.locked = none → f.entered = [] → (doReturn e (T.setTop f) acts v).1 = T.setFrames fs) → Steps p.tables e below (T.setTop g) (T.setFrames fs)) : own_E p e below s k n P T g := by
  obtain ⟨fs, hr, hrun, hended, hW, hsame⟩ := X.leave (v := v) hv hlk
  exact ⟨_, _, h fs hr, hrun, hended, _, _, rfl, hP, ⟨_, rfl⟩, hW, hsame.mono hk hn⟩
theorem own_retV (X : Stand p l e R s m args below meth c T locs cells slots) (hx : p.tables.exec = Jvm.exec) (hret : meth.sig.returnType = none) (hlk : meth.locks = false) {pc : Nat} {Ls : Array Slot} (hd : decode c.code pc = .ok (.return_, 1)) (hk : cells ≤ k) (hn : slots ≤ n) (hP : P none T.heap locs) : own_E p e below s k n P T (mkF m pc Ls []) :=
  own_end X (fun _ => rfl) hlk hk hn hP fun _ hr => X.returnOut hx hret hd hr
theorem own_retN (X : Stand p l e R s m args below meth c T locs cells slots) (hx : p.tables.exec = Jvm.exec) {t : FieldType} (hret : meth.sig.returnType = some t) (ht : t = .boolean ∨ t = .byte ∨ t = .char ∨ t = .short) (hlk : meth.locks = false) {pc : Nat} {Ls : Array Slot} {z : Int32} {rest : List Value} (hd : decode c.code pc = .ok (.ireturn, 1)) (hk : cells ≤ k) (hn : slots ≤ n) (hP : P (some (.int (nar t z))) T.heap locs) : own_E p e below s k n P T (mkF m pc Ls (.int z :: rest)) :=
  own_end X (fun h => by rw [hret] at h; cases h) hlk hk hn hP fun _ hr => retN X hx hret ht hd hr
theorem own_retI (X : Stand p l e R s m args below meth c T locs cells slots) (hx : p.tables.exec = Jvm.exec) (hret : meth.sig.returnType = some .int) (hlk : meth.locks = false) {pc : Nat} {Ls : Array Slot} {z : Int32} {rest : List Value} (hd : decode c.code pc = .ok (.ireturn, 1)) (hk : cells ≤ k) (hn : slots ≤ n) (hP : P (some (.int z)) T.heap locs) : own_E p e below s k n P T (mkF m pc Ls (.int z :: rest)) :=
  own_end X (fun h => by rw [hret] at h; cases h) hlk hk hn hP fun _ hr => retOut X hx hret rfl (Or.inl ⟨rfl, Or.inl rfl, z, rfl⟩) hd hr
theorem own_retL (X : Stand p l e R s m args below meth c T locs cells slots) (hx : p.tables.exec = Jvm.exec) (hret : meth.sig.returnType = some .long) (hlk : meth.locks = false) {pc : Nat} {Ls : Array Slot} {z : Int64} {rest : List Value} (hd : decode c.code pc = .ok (.lreturn, 1)) (hk : cells ≤ k) (hn : slots ≤ n) (hP : P (some (.long z)) T.heap locs) : own_E p e below s k n P T (mkF m pc Ls (.long z :: rest)) :=
  own_end X (fun h => by rw [hret] at h; cases h) hlk hk hn hP fun _ hr => retOut X hx hret rfl (Or.inr (Or.inl ⟨rfl, rfl, z, rfl⟩)) hd hr
theorem own_narR {t : FieldType} {v : Value} (ht : t.isReference = true) : narrow t v = v := by cases t <;> first | (cases ht; done) | (cases v <;> rfl)
theorem own_fitR {t : FieldType} {v : Value} (h : v.isRef = true) (ht : t.isReference = true) : fits t v = true := by cases t <;> first | (cases ht; done) | (cases v <;> first | (cases h; done) | rfl)
theorem own_retA (X : Stand p l e R s m args below meth c T locs cells slots) (hx : p.tables.exec = Jvm.exec) {t : FieldType} (hret : meth.sig.returnType = some t) (ht : t.isReference = true) {w : Value} (hw : w.isRef = true) (hlk : meth.locks = false) {pc : Nat} {Ls : Array Slot} {rest : List Value} (hd : decode c.code pc = .ok (.areturn, 1)) (hk : cells ≤ k) (hn : slots ≤ n) (hP : P (some w) T.heap locs) : own_E p e below s k n P T (mkF m pc Ls (w :: rest)) :=
  own_end X (fun h => by rw [hret] at h; cases h) hlk hk hn hP fun _ hr => retOut X hx hret (own_narR ht) (Or.inr (Or.inr (Or.inr (Or.inr ⟨rfl, ht, hw⟩)))) hd hr
end Own
theorem own_z {Z : State} {n0 : Nat} {h : Heap} (O : Old Z n0 h) : n0 ≤ h.size := O.1 ▸ O.2.1
theorem own_oldlt {Z : State} {n0 : Nat} {h : Heap} {a : Addr} (O : Old Z n0 h) (q : a < Z.heap.size) : a < h.size := Nat.lt_of_lt_of_le q O.2.1
theorem own_ext {h h' : Heap} (K : Keep h h' []) : Ext h h' := ⟨K.1, fun x c q => K.2.1 x c q nin0⟩
theorem own_fld0 {args : Array Value} {Z : State} {t : Term} {a : Addr} {C n d : String} {k : Int32} (ev : t.eval args Z none [] Z = some (.ref a)) (h : (Jvm.Cond.eq (Term.field t C n d) (Term.int k)).value args Z none Z [] = some true) : Fld Z Z.heap a C n d (.int k) := by
  cases hv : Z.fieldOf? a C n d with
  | none => simp [Cond.value, Term.eval, ev, hv] at h
  | some x => cases x <;> simp [Cond.value, Term.eval, ev, hv] at h; subst h; exact Fld.start hv
theorem own_nz {args : Array Value} {Z : State} {t : Term} {cz : Int32} (ev : t.eval args Z none [] Z = some (.int cz)) (h : (Jvm.Cond.not (Jvm.Cond.eq t (Term.int (0 : Int32)))).value args Z none Z [] = some true) : ¬ cz = (0 : Int32) := by
  simpa [Cond.value, ev, Term.eval] using h
theorem own_neF {Z : State} {h : Heap} {a b : Addr} {C n d : String} {x y : Value} (F : Fld Z h a C n d x) (G : Fld Z h b C n d y) (q : x ≠ y) : a ≠ b := fun e => by
  subst e
  obtain ⟨c1, cf1, k1, i1, f1, h1, h2, -, -, -, -, h7⟩ := F
  obtain ⟨c2, cf2, k2, i2, f2, g1, g2, -, -, -, -, g7⟩ := G
  cases h1.symm.trans g1
  cases h2.symm.trans g2
  exact q (Option.some.inj (h7.symm.trans g7))
theorem own_rem (x y : Int32) (d : Int) (hd : 0 < d) (hy : y.toInt = d) : 0 ≤ ((x &&& 2147483647) % y).toInt ∧ ((x &&& 2147483647) % y).toInt < d := by
  have h1 := (c_andS x 2147483647).2.2 (by decide)
  have h2 := (c_irem (x &&& 2147483647) y d hy).1 h1
  rw [h2]; exact ⟨Int.emod_nonneg _ (by omega), Int.emod_lt_of_pos _ hd⟩
theorem own_nc (x : Int32) : nar .char ((x &&& 255).toUInt32.toUInt16.toUInt32.toInt32) = x &&& 255 := by
  show ((x &&& 255).toUInt32.toUInt16.toUInt32.toInt32).toUInt32.toUInt16.toUInt32.toInt32 = _
  rw [i2c_mask, i2c_mask]
theorem own_r255 (x : Int32) : ¬ (x &&& 255) < (0 : Int32) ∧ ¬ (255 : Int32) < (x &&& 255) := by
  have e := c_mask x 255 8 (by decide) (by decide)
  have z0 : (0 : Int32).toInt = 0 := rfl
  have z1 : (255 : Int32).toInt = 255 := rfl
  have z2 : ((2 ^ 8 : Nat) : Int) = 256 := rfl
  constructor <;> rw [Int32.lt_iff_toInt_lt] <;> omega
theorem own_c255 (x : Int32) : ¬ (255 : Int32) < nar .char ((x &&& 255).toUInt32.toUInt16.toUInt32.toInt32) := by rw [own_nc]; exact (own_r255 x).2
theorem own_eqI {x y : Int32} (h : x.toInt = y.toInt) : x = y := Int32.toInt_inj.mp h
theorem d5_0 : decode jdk_52_method_21_code 0 = .ok (.iconst 0, 1) := by decide +kernel
theorem d5_1 : decode jdk_52_method_21_code 1 = .ok (.istore 5, 2) := by decide +kernel
theorem d5_3 : decode jdk_52_method_21_code 3 = .ok (.iload 5, 2) := by decide +kernel
theorem d5_5 : decode jdk_52_method_21_code 5 = .ok (.iload 4, 2) := by decide +kernel
theorem d5_7 : decode jdk_52_method_21_code 7 = .ok (.if_icmp .ge 37, 3) := by decide +kernel
theorem d5_10 : decode jdk_52_method_21_code 10 = .ok (.aload_n 0, 1) := by decide +kernel
theorem d5_11 : decode jdk_52_method_21_code 11 = .ok (.iload_n 1, 1) := by decide +kernel
theorem d5_12 : decode jdk_52_method_21_code 12 = .ok (.caload, 1) := by decide +kernel
theorem d5_13 : decode jdk_52_method_21_code 13 = .ok (.istore 6, 2) := by decide +kernel
theorem d5_15 : decode jdk_52_method_21_code 15 = .ok (.iload 6, 2) := by decide +kernel
theorem d5_17 : decode jdk_52_method_21_code 17 = .ok (.sipush 255, 3) := by decide +kernel
theorem d5_20 : decode jdk_52_method_21_code 20 = .ok (.if_icmp .le 6, 3) := by decide +kernel
theorem d5_26 : decode jdk_52_method_21_code 26 = .ok (.aload_n 2, 1) := by decide +kernel
theorem d5_27 : decode jdk_52_method_21_code 27 = .ok (.iload_n 3, 1) := by decide +kernel
theorem d5_28 : decode jdk_52_method_21_code 28 = .ok (.iload 6, 2) := by decide +kernel
theorem d5_30 : decode jdk_52_method_21_code 30 = .ok (.i2b, 1) := by decide +kernel
theorem d5_31 : decode jdk_52_method_21_code 31 = .ok (.bastore, 1) := by decide +kernel
theorem d5_32 : decode jdk_52_method_21_code 32 = .ok (.iinc 1 1, 3) := by decide +kernel
theorem d5_35 : decode jdk_52_method_21_code 35 = .ok (.iinc 3 1, 3) := by decide +kernel
theorem d5_38 : decode jdk_52_method_21_code 38 = .ok (.iinc 5 1, 3) := by decide +kernel
theorem d5_41 : decode jdk_52_method_21_code 41 = .ok (.goto (-38), 3) := by decide +kernel
theorem d5_44 : decode jdk_52_method_21_code 44 = .ok (.iload 4, 2) := by decide +kernel
theorem d5_46 : decode jdk_52_method_21_code 46 = .ok (.ireturn, 1) := by decide +kernel
theorem pn_0 : plainName "java/lang/StringUTF16" = true := by first | (simp [plainName, overriddenIn]; done) | decide +kernel
theorem ef_cmp5_2 (m : MethodId) (x0 : Addr) (x1 : Int32) (x2 : Addr) (x3 : Int32) (x4 : Int32) : entryFrame m #[(.ref x0), (.int x1), (.ref x2), (.int x3), (.int x4)] 7 = mkF m 0 #[.val (.ref x0), .val (.int x1), .val (.ref x2), .val (.int x3), .val (.int x4), .unset, .unset] [] := by first | (simp [entryFrame, mkF, argsToLocals, Value.category]; done) | rfl
def Q_cmp5_2 (Z : State) (va : Addr) (da : Addr) (kc : ClassId) (kd : ClassId) (c0 : Int32) (c1 : Int32) (h0 : Heap) (n0 : Nat) (v : Option Value) (h : Heap) (L : List Loc) : Prop := (v = some (.int (2 : Int32))) ∧ (Fr n0 L) ∧ (Keep h0 h [da]) ∧ (Arv Z h da kd .byte (2 : Int32) [(.int (nar .byte (c0.toInt8.toInt32))), (.int (nar .byte (c1.toInt8.toInt32)))] (.int (0 : Int32)))
set_option maxRecDepth 65536 in
set_option maxHeartbeats 40000000 in
theorem rm_cmp5_2 (l : Launch) (Z : State) (a0 : Array Value) (hw : ∀ d ∈ tables_1, d.before a0 Z = true) (ws : List Jvm.Cond) (va : Addr) (da : Addr) (kc : ClassId) (kd : ClassId) (c0 : Int32) (c1 : Int32) (h0 : Heap) (n0 : Nat) (O0 : Old Z n0 h0) (VA : Arv Z h0 va kc .char (2 : Int32) [(.int c0), (.int c1)] (.int (0 : Int32))) (VD : Arv Z h0 da kd .byte (2 : Int32) [(.int (0 : Int32)), (.int (0 : Int32))] (.int (0 : Int32))) (nad : va ≠ da) (fda : n0 ≤ da) (hp0 : ¬ (255 : Int32) < c0) (hp1 : ¬ (255 : Int32) < c1) :
    MetFree l (⟨"java/lang/StringUTF16", "compress", "([CI[BII)I"⟩ : MethodName) (head1 (Jvm.Cond.code (⟨"java/lang/StringUTF16", "compress", "([CI[BII)I"⟩ : MethodName) jdk_52_method_21_code 7 (some .int) :: ws) ({ frames := 0, cells := 0, slots := 0, locals := 0 } : Room)) (fun ar_ U => ar_ = #[(.ref va), (.int (0 : Int32)), (.ref da), (.int (0 : Int32)), (.int (2 : Int32))] ∧ Z.Warmed39 U.vm ∧ U.heap = h0) (fun _ _ _ _ _ => True) (fun _ U o U' => ∃ v L, o = .returned v ∧ Q_cmp5_2 Z va da kc kd c0 c1 h0 n0 v U'.heap L ∧ FrameEnd U o U' L ({ frames := 0, cells := 0, slots := 0, locals := 0 } : Room).cells ({ frames := 0, cells := 0, slots := 0, locals := 0 } : Room).slots) := by
  refine MetFree.of_bodySF (plainFor_of_name pn_0) hisR ?_
  intro p e s m args below meth c s₁ Bd hml0 hP hK
  obtain ⟨rfl, hZ, hh⟩ := hP
  have hx := Bd.exec
  have hby := Bd.bytes
  have hml : c.maxLocals = 7 := hml0
  have hown : s.vm.findClass "java/lang/StringUTF16" = some m.cls := findClass_of_methodNamed Bd.named
  have hnm := (name_of_methodNamed Bd.named Bd.method).1
  have X0 : Stand p l e ({ frames := 0, cells := 0, slots := 0, locals := 0 } : Room) s m #[(.ref va), (.int (0 : Int32)), (.ref da), (.int (0 : Int32)), (.int (2 : Int32))] below meth c s₁ [] 0 0 := Stand.of_body Bd
  have e0 : s₁.heap = h0 := by rw [← hh, Bd.state]; rfl
  have N0 := Fr.nil n0
  have hret := Bd.returns
  have hlk : meth.locks = false := Bd.notSynchronized
  show own_E p e below s ({ frames := 0, cells := 0, slots := 0, locals := 0 } : Room).cells ({ frames := 0, cells := 0, slots := 0, locals := 0 } : Room).slots (Q_cmp5_2 Z va da kc kd c0 c1 h0 n0) s₁ (entryFrame m #[(.ref va), (.int (0 : Int32)), (.ref da), (.int (0 : Int32)), (.int (2 : Int32))] 7)
  rw [ef_cmp5_2 m va (0 : Int32) da (0 : Int32) (2 : Int32)]
  refine own_st (T' := s₁) (g' := (mkF m 1 #[.val (.ref va), .val (.int (0 : Int32)), .val (.ref da), .val (.int (0 : Int32)), .val (.int (2 : Int32)), .unset, .unset] [(.int (0 : Int32))])) (fun t_ k_ => XS.iconst X0.here hx rfl (hb hby d5_0) k_) ?_
  refine own_st (T' := s₁) (g' := (mkF m 3 #[.val (.ref va), .val (.int (0 : Int32)), .val (.ref da), .val (.int (0 : Int32)), .val (.int (2 : Int32)), .val (.int (0 : Int32)), .unset] [])) (fun t_ k_ => XS.istore X0.here hx rfl (hb hby d5_1) rfl (l' := #[.val (.ref va), .val (.int (0 : Int32)), .val (.ref da), .val (.int (0 : Int32)), .val (.int (2 : Int32)), .val (.int (0 : Int32)), .unset]) rfl k_) ?_
  refine own_st (T' := s₁) (g' := (mkF m 5 #[.val (.ref va), .val (.int (0 : Int32)), .val (.ref da), .val (.int (0 : Int32)), .val (.int (2 : Int32)), .val (.int (0 : Int32)), .unset] [(.int (0 : Int32))])) (fun t_ k_ => XS.iload X0.here hx rfl (hb hby d5_3) rfl  k_) ?_
  refine own_st (T' := s₁) (g' := (mkF m 7 #[.val (.ref va), .val (.int (0 : Int32)), .val (.ref da), .val (.int (0 : Int32)), .val (.int (2 : Int32)), .val (.int (0 : Int32)), .unset] [(.int (2 : Int32)), (.int (0 : Int32))])) (fun t_ k_ => XS.iload X0.here hx rfl (hb hby d5_5) rfl  k_) ?_
  refine own_st (T' := s₁) (g' := (mkF m 10 #[.val (.ref va), .val (.int (0 : Int32)), .val (.ref da), .val (.int (0 : Int32)), .val (.int (2 : Int32)), .val (.int (0 : Int32)), .unset] [])) (fun t_ k_ => XS.icmpNo X0.here hx rfl (hb hby d5_7) rfl (tlt (by decide : (0 : Int32) < (2 : Int32))).2.1 k_) ?_
  refine own_st (T' := s₁) (g' := (mkF m 11 #[.val (.ref va), .val (.int (0 : Int32)), .val (.ref da), .val (.int (0 : Int32)), .val (.int (2 : Int32)), .val (.int (0 : Int32)), .unset] [(.ref va)])) (fun t_ k_ => XS.aloadN X0.here hx rfl (hb hby d5_10) rfl rfl  k_) ?_
  refine own_st (T' := s₁) (g' := (mkF m 12 #[.val (.ref va), .val (.int (0 : Int32)), .val (.ref da), .val (.int (0 : Int32)), .val (.int (2 : Int32)), .val (.int (0 : Int32)), .unset] [(.int (0 : Int32)), (.ref va)])) (fun t_ k_ => XS.iloadN X0.here hx rfl (hb hby d5_11) rfl  k_) ?_
  obtain ⟨cl1, Ar1, q1, S1, N1, H1, G1⟩ := id VA
  have hin1 : ¬ ((0 : Int32) < 0 ∨ cl1.slots.size ≤ ((0 : Int32)).toNatClampNeg) := inb_of S1 ⟨by decide, by decide⟩
  refine own_st (T' := s₁) (g' := (mkF m 13 #[.val (.ref va), .val (.int (0 : Int32)), .val (.ref da), .val (.int (0 : Int32)), .val (.int (2 : Int32)), .val (.int (0 : Int32)), .unset] [(.int c0)])) (X0.caload hx (j := (0 : Int32)) (v := (.int c0)) (by rw [e0]; exact Ar1.1) (State.isArrayOf_alike hZ.alike Ar1.2.1) Ar1.2.2 hin1 (H1.at hin1 rfl) (g := (mkF m 12 #[.val (.ref va), .val (.int (0 : Int32)), .val (.ref da), .val (.int (0 : Int32)), .val (.int (2 : Int32)), .val (.int (0 : Int32)), .unset] [(.int (0 : Int32)), (.ref va)])) rfl rfl (hb hby d5_12)) ?_
  refine own_st (T' := s₁) (g' := (mkF m 15 #[.val (.ref va), .val (.int (0 : Int32)), .val (.ref da), .val (.int (0 : Int32)), .val (.int (2 : Int32)), .val (.int (0 : Int32)), .val (.int c0)] [])) (fun t_ k_ => XS.istore X0.here hx rfl (hb hby d5_13) rfl (l' := #[.val (.ref va), .val (.int (0 : Int32)), .val (.ref da), .val (.int (0 : Int32)), .val (.int (2 : Int32)), .val (.int (0 : Int32)), .val (.int c0)]) rfl k_) ?_
  refine own_st (T' := s₁) (g' := (mkF m 17 #[.val (.ref va), .val (.int (0 : Int32)), .val (.ref da), .val (.int (0 : Int32)), .val (.int (2 : Int32)), .val (.int (0 : Int32)), .val (.int c0)] [(.int c0)])) (fun t_ k_ => XS.iload X0.here hx rfl (hb hby d5_15) rfl  k_) ?_
  refine own_st (T' := s₁) (g' := (mkF m 20 #[.val (.ref va), .val (.int (0 : Int32)), .val (.ref da), .val (.int (0 : Int32)), .val (.int (2 : Int32)), .val (.int (0 : Int32)), .val (.int c0)] [(.int (255 : Int32)), (.int c0)])) (fun t_ k_ => XS.sipush X0.here hx rfl (hb hby d5_17) k_) ?_
  refine own_st (T' := s₁) (g' := (mkF m 26 #[.val (.ref va), .val (.int (0 : Int32)), .val (.ref da), .val (.int (0 : Int32)), .val (.int (2 : Int32)), .val (.int (0 : Int32)), .val (.int c0)] [])) (fun t_ k_ => XS.icmpYes X0.here hx rfl (pc0 := 20) (pc' := 26) rfl (hb hby d5_20) rfl (flt (hp0 : ¬ ((255 : Int32) < c0))).2.2.2 (by decide) (by decide) k_) ?_
  refine own_st (T' := s₁) (g' := (mkF m 27 #[.val (.ref va), .val (.int (0 : Int32)), .val (.ref da), .val (.int (0 : Int32)), .val (.int (2 : Int32)), .val (.int (0 : Int32)), .val (.int c0)] [(.ref da)])) (fun t_ k_ => XS.aloadN X0.here hx rfl (hb hby d5_26) rfl rfl  k_) ?_
  refine own_st (T' := s₁) (g' := (mkF m 28 #[.val (.ref va), .val (.int (0 : Int32)), .val (.ref da), .val (.int (0 : Int32)), .val (.int (2 : Int32)), .val (.int (0 : Int32)), .val (.int c0)] [(.int (0 : Int32)), (.ref da)])) (fun t_ k_ => XS.iloadN X0.here hx rfl (hb hby d5_27) rfl  k_) ?_
  refine own_st (T' := s₁) (g' := (mkF m 30 #[.val (.ref va), .val (.int (0 : Int32)), .val (.ref da), .val (.int (0 : Int32)), .val (.int (2 : Int32)), .val (.int (0 : Int32)), .val (.int c0)] [(.int c0), (.int (0 : Int32)), (.ref da)])) (fun t_ k_ => XS.iload X0.here hx rfl (hb hby d5_28) rfl  k_) ?_
  refine own_st (T' := s₁) (g' := (mkF m 31 #[.val (.ref va), .val (.int (0 : Int32)), .val (.ref da), .val (.int (0 : Int32)), .val (.int (2 : Int32)), .val (.int (0 : Int32)), .val (.int c0)] [(.int (c0.toInt8.toInt32)), (.int (0 : Int32)), (.ref da)])) (fun t_ k_ => XS.i2b X0.here hx rfl (hb hby d5_30) rfl k_) ?_
  obtain ⟨cl2, Ar2, q2, S2, N2, H2, G2⟩ := id VD
  have hin2 : ¬ ((0 : Int32) < 0 ∨ cl2.slots.size ≤ ((0 : Int32)).toNatClampNeg) := inb_of S2 ⟨by decide, by decide⟩
  obtain ⟨T3, h3, X3, e3, W3, st3⟩ := stB X0 hx hZ e0 Ar2 (j := (0 : Int32)) hin2 (g := (mkF m 31 #[.val (.ref va), .val (.int (0 : Int32)), .val (.ref da), .val (.int (0 : Int32)), .val (.int (2 : Int32)), .val (.int (0 : Int32)), .val (.int c0)] [(.int (c0.toInt8.toInt32)), (.int (0 : Int32)), (.ref da)])) rfl rfl (hb hby d5_31)
  have V3 : Arv Z h3 da kd .byte (2 : Int32) [(.int (nar .byte (c0.toInt8.toInt32))), (.int (0 : Int32))] (.int (0 : Int32)) := Arv.set Ar2 q2 S2 N2 H2 G2 (fits_nar_byte _) W3 0 rfl (Nat.le_of_ble_eq_true rfl)
  have Nx3 := Fr.snoc X3 N0 fda
  refine own_st (T' := T3) (g' := (mkF m 32 #[.val (.ref va), .val (.int (0 : Int32)), .val (.ref da), .val (.int (0 : Int32)), .val (.int (2 : Int32)), .val (.int (0 : Int32)), .val (.int c0)] [])) st3 ?_
  refine own_st (T' := T3) (g' := (mkF m 35 #[.val (.ref va), .val (.int (1 : Int32)), .val (.ref da), .val (.int (0 : Int32)), .val (.int (2 : Int32)), .val (.int (0 : Int32)), .val (.int c0)] [])) (fun t_ k_ => XS.iinc X3.here hx rfl (hb hby d5_32) rfl (l' := #[.val (.ref va), .val (.int (1 : Int32)), .val (.ref da), .val (.int (0 : Int32)), .val (.int (2 : Int32)), .val (.int (0 : Int32)), .val (.int c0)]) rfl k_) ?_
  refine own_st (T' := T3) (g' := (mkF m 38 #[.val (.ref va), .val (.int (1 : Int32)), .val (.ref da), .val (.int (1 : Int32)), .val (.int (2 : Int32)), .val (.int (0 : Int32)), .val (.int c0)] [])) (fun t_ k_ => XS.iinc X3.here hx rfl (hb hby d5_35) rfl (l' := #[.val (.ref va), .val (.int (1 : Int32)), .val (.ref da), .val (.int (1 : Int32)), .val (.int (2 : Int32)), .val (.int (0 : Int32)), .val (.int c0)]) rfl k_) ?_
  refine own_st (T' := T3) (g' := (mkF m 41 #[.val (.ref va), .val (.int (1 : Int32)), .val (.ref da), .val (.int (1 : Int32)), .val (.int (2 : Int32)), .val (.int (1 : Int32)), .val (.int c0)] [])) (fun t_ k_ => XS.iinc X3.here hx rfl (hb hby d5_38) rfl (l' := #[.val (.ref va), .val (.int (1 : Int32)), .val (.ref da), .val (.int (1 : Int32)), .val (.int (2 : Int32)), .val (.int (1 : Int32)), .val (.int c0)]) rfl k_) ?_
  refine own_st (T' := T3) (g' := (mkF m 3 #[.val (.ref va), .val (.int (1 : Int32)), .val (.ref da), .val (.int (1 : Int32)), .val (.int (2 : Int32)), .val (.int (1 : Int32)), .val (.int c0)] [])) (fun t_ k_ => XS.goto X3.here hx rfl (pc0 := 41) (pc' := 3) rfl (hb hby d5_41) (by decide) (by decide) k_) ?_
  refine own_st (T' := T3) (g' := (mkF m 5 #[.val (.ref va), .val (.int (1 : Int32)), .val (.ref da), .val (.int (1 : Int32)), .val (.int (2 : Int32)), .val (.int (1 : Int32)), .val (.int c0)] [(.int (1 : Int32))])) (fun t_ k_ => XS.iload X3.here hx rfl (hb hby d5_3) rfl  k_) ?_
  refine own_st (T' := T3) (g' := (mkF m 7 #[.val (.ref va), .val (.int (1 : Int32)), .val (.ref da), .val (.int (1 : Int32)), .val (.int (2 : Int32)), .val (.int (1 : Int32)), .val (.int c0)] [(.int (2 : Int32)), (.int (1 : Int32))])) (fun t_ k_ => XS.iload X3.here hx rfl (hb hby d5_5) rfl  k_) ?_
  refine own_st (T' := T3) (g' := (mkF m 10 #[.val (.ref va), .val (.int (1 : Int32)), .val (.ref da), .val (.int (1 : Int32)), .val (.int (2 : Int32)), .val (.int (1 : Int32)), .val (.int c0)] [])) (fun t_ k_ => XS.icmpNo X3.here hx rfl (hb hby d5_7) rfl (tlt (by decide : (1 : Int32) < (2 : Int32))).2.1 k_) ?_
  refine own_st (T' := T3) (g' := (mkF m 11 #[.val (.ref va), .val (.int (1 : Int32)), .val (.ref da), .val (.int (1 : Int32)), .val (.int (2 : Int32)), .val (.int (1 : Int32)), .val (.int c0)] [(.ref va)])) (fun t_ k_ => XS.aloadN X3.here hx rfl (hb hby d5_10) rfl rfl  k_) ?_
  refine own_st (T' := T3) (g' := (mkF m 12 #[.val (.ref va), .val (.int (1 : Int32)), .val (.ref da), .val (.int (1 : Int32)), .val (.int (2 : Int32)), .val (.int (1 : Int32)), .val (.int c0)] [(.int (1 : Int32)), (.ref va)])) (fun t_ k_ => XS.iloadN X3.here hx rfl (hb hby d5_11) rfl  k_) ?_
  have f4 : Arv Z h3 va kc .char (2 : Int32) [(.int c0), (.int c1)] (.int (0 : Int32)) := VA.other W3 nad
  obtain ⟨cl5, Ar5, q5, S5, N5, H5, G5⟩ := id f4
  have hin5 : ¬ ((1 : Int32) < 0 ∨ cl5.slots.size ≤ ((1 : Int32)).toNatClampNeg) := inb_of S5 ⟨by decide, by decide⟩
  refine own_st (T' := T3) (g' := (mkF m 13 #[.val (.ref va), .val (.int (1 : Int32)), .val (.ref da), .val (.int (1 : Int32)), .val (.int (2 : Int32)), .val (.int (1 : Int32)), .val (.int c0)] [(.int c1)])) (X3.caload hx (j := (1 : Int32)) (v := (.int c1)) (by rw [e3]; exact Ar5.1) (State.isArrayOf_alike hZ.alike Ar5.2.1) Ar5.2.2 hin5 (H5.at hin5 rfl) (g := (mkF m 12 #[.val (.ref va), .val (.int (1 : Int32)), .val (.ref da), .val (.int (1 : Int32)), .val (.int (2 : Int32)), .val (.int (1 : Int32)), .val (.int c0)] [(.int (1 : Int32)), (.ref va)])) rfl rfl (hb hby d5_12)) ?_
  refine own_st (T' := T3) (g' := (mkF m 15 #[.val (.ref va), .val (.int (1 : Int32)), .val (.ref da), .val (.int (1 : Int32)), .val (.int (2 : Int32)), .val (.int (1 : Int32)), .val (.int c1)] [])) (fun t_ k_ => XS.istore X3.here hx rfl (hb hby d5_13) rfl (l' := #[.val (.ref va), .val (.int (1 : Int32)), .val (.ref da), .val (.int (1 : Int32)), .val (.int (2 : Int32)), .val (.int (1 : Int32)), .val (.int c1)]) rfl k_) ?_
  refine own_st (T' := T3) (g' := (mkF m 17 #[.val (.ref va), .val (.int (1 : Int32)), .val (.ref da), .val (.int (1 : Int32)), .val (.int (2 : Int32)), .val (.int (1 : Int32)), .val (.int c1)] [(.int c1)])) (fun t_ k_ => XS.iload X3.here hx rfl (hb hby d5_15) rfl  k_) ?_
  refine own_st (T' := T3) (g' := (mkF m 20 #[.val (.ref va), .val (.int (1 : Int32)), .val (.ref da), .val (.int (1 : Int32)), .val (.int (2 : Int32)), .val (.int (1 : Int32)), .val (.int c1)] [(.int (255 : Int32)), (.int c1)])) (fun t_ k_ => XS.sipush X3.here hx rfl (hb hby d5_17) k_) ?_
  refine own_st (T' := T3) (g' := (mkF m 26 #[.val (.ref va), .val (.int (1 : Int32)), .val (.ref da), .val (.int (1 : Int32)), .val (.int (2 : Int32)), .val (.int (1 : Int32)), .val (.int c1)] [])) (fun t_ k_ => XS.icmpYes X3.here hx rfl (pc0 := 20) (pc' := 26) rfl (hb hby d5_20) rfl (flt (hp1 : ¬ ((255 : Int32) < c1))).2.2.2 (by decide) (by decide) k_) ?_
  refine own_st (T' := T3) (g' := (mkF m 27 #[.val (.ref va), .val (.int (1 : Int32)), .val (.ref da), .val (.int (1 : Int32)), .val (.int (2 : Int32)), .val (.int (1 : Int32)), .val (.int c1)] [(.ref da)])) (fun t_ k_ => XS.aloadN X3.here hx rfl (hb hby d5_26) rfl rfl  k_) ?_
  refine own_st (T' := T3) (g' := (mkF m 28 #[.val (.ref va), .val (.int (1 : Int32)), .val (.ref da), .val (.int (1 : Int32)), .val (.int (2 : Int32)), .val (.int (1 : Int32)), .val (.int c1)] [(.int (1 : Int32)), (.ref da)])) (fun t_ k_ => XS.iloadN X3.here hx rfl (hb hby d5_27) rfl  k_) ?_
  refine own_st (T' := T3) (g' := (mkF m 30 #[.val (.ref va), .val (.int (1 : Int32)), .val (.ref da), .val (.int (1 : Int32)), .val (.int (2 : Int32)), .val (.int (1 : Int32)), .val (.int c1)] [(.int c1), (.int (1 : Int32)), (.ref da)])) (fun t_ k_ => XS.iload X3.here hx rfl (hb hby d5_28) rfl  k_) ?_
  refine own_st (T' := T3) (g' := (mkF m 31 #[.val (.ref va), .val (.int (1 : Int32)), .val (.ref da), .val (.int (1 : Int32)), .val (.int (2 : Int32)), .val (.int (1 : Int32)), .val (.int c1)] [(.int (c1.toInt8.toInt32)), (.int (1 : Int32)), (.ref da)])) (fun t_ k_ => XS.i2b X3.here hx rfl (hb hby d5_30) rfl k_) ?_
  obtain ⟨cl6, Ar6, q6, S6, N6, H6, G6⟩ := id V3
  have hin6 : ¬ ((1 : Int32) < 0 ∨ cl6.slots.size ≤ ((1 : Int32)).toNatClampNeg) := inb_of S6 ⟨by decide, by decide⟩
  obtain ⟨T7, h7, X7, e7, W7, st7⟩ := stB X3 hx hZ e3 Ar6 (j := (1 : Int32)) hin6 (g := (mkF m 31 #[.val (.ref va), .val (.int (1 : Int32)), .val (.ref da), .val (.int (1 : Int32)), .val (.int (2 : Int32)), .val (.int (1 : Int32)), .val (.int c1)] [(.int (c1.toInt8.toInt32)), (.int (1 : Int32)), (.ref da)])) rfl rfl (hb hby d5_31)
  have V7 : Arv Z h7 da kd .byte (2 : Int32) [(.int (nar .byte (c0.toInt8.toInt32))), (.int (nar .byte (c1.toInt8.toInt32)))] (.int (0 : Int32)) := Arv.set Ar6 q6 S6 N6 H6 G6 (fits_nar_byte _) W7 1 rfl (Nat.le_of_ble_eq_true rfl)
  have Nx7 := Fr.snoc X7 Nx3 fda
  refine own_st (T' := T7) (g' := (mkF m 32 #[.val (.ref va), .val (.int (1 : Int32)), .val (.ref da), .val (.int (1 : Int32)), .val (.int (2 : Int32)), .val (.int (1 : Int32)), .val (.int c1)] [])) st7 ?_
  refine own_st (T' := T7) (g' := (mkF m 35 #[.val (.ref va), .val (.int (2 : Int32)), .val (.ref da), .val (.int (1 : Int32)), .val (.int (2 : Int32)), .val (.int (1 : Int32)), .val (.int c1)] [])) (fun t_ k_ => XS.iinc X7.here hx rfl (hb hby d5_32) rfl (l' := #[.val (.ref va), .val (.int (2 : Int32)), .val (.ref da), .val (.int (1 : Int32)), .val (.int (2 : Int32)), .val (.int (1 : Int32)), .val (.int c1)]) rfl k_) ?_
  refine own_st (T' := T7) (g' := (mkF m 38 #[.val (.ref va), .val (.int (2 : Int32)), .val (.ref da), .val (.int (2 : Int32)), .val (.int (2 : Int32)), .val (.int (1 : Int32)), .val (.int c1)] [])) (fun t_ k_ => XS.iinc X7.here hx rfl (hb hby d5_35) rfl (l' := #[.val (.ref va), .val (.int (2 : Int32)), .val (.ref da), .val (.int (2 : Int32)), .val (.int (2 : Int32)), .val (.int (1 : Int32)), .val (.int c1)]) rfl k_) ?_
  refine own_st (T' := T7) (g' := (mkF m 41 #[.val (.ref va), .val (.int (2 : Int32)), .val (.ref da), .val (.int (2 : Int32)), .val (.int (2 : Int32)), .val (.int (2 : Int32)), .val (.int c1)] [])) (fun t_ k_ => XS.iinc X7.here hx rfl (hb hby d5_38) rfl (l' := #[.val (.ref va), .val (.int (2 : Int32)), .val (.ref da), .val (.int (2 : Int32)), .val (.int (2 : Int32)), .val (.int (2 : Int32)), .val (.int c1)]) rfl k_) ?_
  refine own_st (T' := T7) (g' := (mkF m 3 #[.val (.ref va), .val (.int (2 : Int32)), .val (.ref da), .val (.int (2 : Int32)), .val (.int (2 : Int32)), .val (.int (2 : Int32)), .val (.int c1)] [])) (fun t_ k_ => XS.goto X7.here hx rfl (pc0 := 41) (pc' := 3) rfl (hb hby d5_41) (by decide) (by decide) k_) ?_
  refine own_st (T' := T7) (g' := (mkF m 5 #[.val (.ref va), .val (.int (2 : Int32)), .val (.ref da), .val (.int (2 : Int32)), .val (.int (2 : Int32)), .val (.int (2 : Int32)), .val (.int c1)] [(.int (2 : Int32))])) (fun t_ k_ => XS.iload X7.here hx rfl (hb hby d5_3) rfl  k_) ?_
  refine own_st (T' := T7) (g' := (mkF m 7 #[.val (.ref va), .val (.int (2 : Int32)), .val (.ref da), .val (.int (2 : Int32)), .val (.int (2 : Int32)), .val (.int (2 : Int32)), .val (.int c1)] [(.int (2 : Int32)), (.int (2 : Int32))])) (fun t_ k_ => XS.iload X7.here hx rfl (hb hby d5_5) rfl  k_) ?_
  refine own_st (T' := T7) (g' := (mkF m 44 #[.val (.ref va), .val (.int (2 : Int32)), .val (.ref da), .val (.int (2 : Int32)), .val (.int (2 : Int32)), .val (.int (2 : Int32)), .val (.int c1)] [])) (fun t_ k_ => XS.icmpYes X7.here hx rfl (pc0 := 7) (pc' := 44) rfl (hb hby d5_7) rfl (flt (by decide : ¬ ((2 : Int32) < (2 : Int32)))).2.1 (by decide) (by decide) k_) ?_
  refine own_st (T' := T7) (g' := (mkF m 46 #[.val (.ref va), .val (.int (2 : Int32)), .val (.ref da), .val (.int (2 : Int32)), .val (.int (2 : Int32)), .val (.int (2 : Int32)), .val (.int c1)] [(.int (2 : Int32))])) (fun t_ k_ => XS.iload X7.here hx rfl (hb hby d5_44) rfl  k_) ?_
  have f8 : Keep h0 h3 [da] := (Keep.refl h0 [da]).wr W3 (Or.inl (List.mem_of_getElem? (i := 0) rfl))
  have f9 : Keep h0 h7 [da] := f8.wr W7 (Or.inl (List.mem_of_getElem? (i := 0) rfl))
  exact own_retI X7 hx hret hlk (hb hby d5_46) (by decide) (by decide) (by rw [e7]; exact ⟨rfl, Nx7, f9, V7⟩)
theorem d4_0 : decode jdk_52_method_16_code 0 = .ok (.iload_n 2, 1) := by decide +kernel
theorem d4_1 : decode jdk_52_method_16_code 1 = .ok (.newarray .byte, 2) := by decide +kernel
theorem d4_3 : decode jdk_52_method_16_code 3 = .ok (.astore_n 3, 1) := by decide +kernel
theorem d4_4 : decode jdk_52_method_16_code 4 = .ok (.aload_n 0, 1) := by decide +kernel
theorem d4_5 : decode jdk_52_method_16_code 5 = .ok (.iload_n 1, 1) := by decide +kernel
theorem d4_6 : decode jdk_52_method_16_code 6 = .ok (.aload_n 3, 1) := by decide +kernel
theorem d4_7 : decode jdk_52_method_16_code 7 = .ok (.iconst 0, 1) := by decide +kernel
theorem d4_8 : decode jdk_52_method_16_code 8 = .ok (.iload_n 2, 1) := by decide +kernel
theorem d4_9 : decode jdk_52_method_16_code 9 = .ok (.invokestatic 115, 3) := by decide +kernel
theorem d4_12 : decode jdk_52_method_16_code 12 = .ok (.istore 4, 2) := by decide +kernel
theorem d4_14 : decode jdk_52_method_16_code 14 = .ok (.iload 4, 2) := by decide +kernel
theorem d4_16 : decode jdk_52_method_16_code 16 = .ok (.iload_n 2, 1) := by decide +kernel
theorem d4_17 : decode jdk_52_method_16_code 17 = .ok (.if_icmp .eq 40, 3) := by decide +kernel
theorem d4_57 : decode jdk_52_method_16_code 57 = .ok (.aload_n 3, 1) := by decide +kernel
theorem d4_58 : decode jdk_52_method_16_code 58 = .ok (.areturn, 1) := by decide +kernel
theorem pd___CI_BII_I : parseMethodDescriptor "([CI[BII)I" = some ⟨[(.array .char), .int, (.array .byte), .int, .int], some .int⟩ := by decide +kernel
theorem ef_cmp3_2 (m : MethodId) (x0 : Addr) (x1 : Int32) (x2 : Int32) : entryFrame m #[(.ref x0), (.int x1), (.int x2)] 6 = mkF m 0 #[.val (.ref x0), .val (.int x1), .val (.int x2), .unset, .unset, .unset] [] := by first | (simp [entryFrame, mkF, argsToLocals, Value.category]; done) | rfl
def Q_cmp3_2 (Z : State) (va : Addr) (kc : ClassId) (c0 : Int32) (c1 : Int32) (h0 : Heap) (n0 : Nat) (v : Option Value) (h : Heap) (L : List Loc) : Prop := ∃ (t : Addr) (kb : ClassId), (v = some (.ref t)) ∧ (Fr n0 L) ∧ (Keep h0 h []) ∧ (Arv Z h t kb .byte (2 : Int32) [(.int (nar .byte (c0.toInt8.toInt32))), (.int (nar .byte (c1.toInt8.toInt32)))] (.int (0 : Int32))) ∧ (h0.size ≤ t)
set_option maxRecDepth 65536 in
set_option maxHeartbeats 40000000 in
theorem rm_cmp3_2 (l : Launch) (Z : State) (a0 : Array Value) (hw : ∀ d ∈ tables_1, d.before a0 Z = true) (ws : List Jvm.Cond) (va : Addr) (kc : ClassId) (c0 : Int32) (c1 : Int32) (h0 : Heap) (n0 : Nat) (O0 : Old Z n0 h0) (VA : Arv Z h0 va kc .char (2 : Int32) [(.int c0), (.int c1)] (.int (0 : Int32))) (hp0 : ¬ (255 : Int32) < c0) (hp1 : ¬ (255 : Int32) < c1) :
    MetFree l (⟨"java/lang/StringUTF16", "compress", "([CII)[B"⟩ : MethodName) (head1 (Jvm.Cond.code (⟨"java/lang/StringUTF16", "compress", "([CII)[B"⟩ : MethodName) jdk_52_method_16_code 6 (some (.array .byte)) :: ws) ({ frames := 1, cells := 1, slots := 2, locals := 18 } : Room)) (fun ar_ U => ar_ = #[(.ref va), (.int (0 : Int32)), (.int (2 : Int32))] ∧ Z.Warmed39 U.vm ∧ U.heap = h0) (fun _ _ _ _ _ => True) (fun _ U o U' => ∃ v L, o = .returned v ∧ Q_cmp3_2 Z va kc c0 c1 h0 n0 v U'.heap L ∧ FrameEnd U o U' L ({ frames := 1, cells := 1, slots := 2, locals := 18 } : Room).cells ({ frames := 1, cells := 1, slots := 2, locals := 18 } : Room).slots) := by
  refine MetFree.of_bodySF (plainFor_of_name pn_0) hisR ?_
  intro p e s m args below meth c s₁ Bd hml0 hP hK
  obtain ⟨rfl, hZ, hh⟩ := hP
  have hx := Bd.exec
  have hby := Bd.bytes
  have hml : c.maxLocals = 6 := hml0
  have hown : s.vm.findClass "java/lang/StringUTF16" = some m.cls := findClass_of_methodNamed Bd.named
  have hnm := (name_of_methodNamed Bd.named Bd.method).1
  have X0 : Stand p l e ({ frames := 1, cells := 1, slots := 2, locals := 18 } : Room) s m #[(.ref va), (.int (0 : Int32)), (.int (2 : Int32))] below meth c s₁ [] 0 0 := Stand.of_body Bd
  have e0 : s₁.heap = h0 := by rw [← hh, Bd.state]; rfl
  have N0 := Fr.nil n0
  have hret := Bd.returns
  have hlk : meth.locks = false := Bd.notSynchronized
  show own_E p e below s ({ frames := 1, cells := 1, slots := 2, locals := 18 } : Room).cells ({ frames := 1, cells := 1, slots := 2, locals := 18 } : Room).slots (Q_cmp3_2 Z va kc c0 c1 h0 n0) s₁ (entryFrame m #[(.ref va), (.int (0 : Int32)), (.int (2 : Int32))] 6)
  rw [ef_cmp3_2 m va (0 : Int32) (2 : Int32)]
  refine own_st (T' := s₁) (g' := (mkF m 1 #[.val (.ref va), .val (.int (0 : Int32)), .val (.int (2 : Int32)), .unset, .unset, .unset] [(.int (2 : Int32))])) (fun t_ k_ => XS.iloadN X0.here hx rfl (hb hby d4_0) rfl  k_) ?_
  obtain ⟨T1, h1, k1, X1, e1, E1, A1, st1⟩ := newP X0 hx hZ (hw _ (List.mem_of_getElem? (i := 19) rfl)) e0 (g := (mkF m 1 #[.val (.ref va), .val (.int (0 : Int32)), .val (.int (2 : Int32)), .unset, .unset, .unset] [(.int (2 : Int32))])) rfl (hb hby d4_1) rfl (by decide) (cap := 2) (by decide) (by decide) (by decide) (by decide)
  obtain ⟨b1, g1⟩ : ∃ z, z = h0.size := ⟨_, rfl⟩
  rw [← g1] at A1 st1
  have fr1 : n0 ≤ b1 := Nat.le_trans (own_z O0) (Nat.le_of_eq g1.symm)
  have sz1 : h0.size ≤ b1 := Nat.le_trans (Keep.refl h0 []).1 (Nat.le_of_eq g1.symm)
  have V1 : Arv Z h1 b1 k1 .byte (2 : Int32) [(.int (0 : Int32)), (.int (0 : Int32))] (.int (0 : Int32)) := (Arv.new A1 (by decide)).pad (pad_rep [] (.int (0 : Int32)) 2)
  refine own_st (T' := T1) (g' := (mkF m 3 #[.val (.ref va), .val (.int (0 : Int32)), .val (.int (2 : Int32)), .unset, .unset, .unset] [(.ref b1)])) st1 ?_
  refine own_st (T' := T1) (g' := (mkF m 4 #[.val (.ref va), .val (.int (0 : Int32)), .val (.int (2 : Int32)), .val (.ref b1), .unset, .unset] [])) (fun t_ k_ => XS.astoreN X1.here hx rfl (hb hby d4_3) rfl rfl (l' := #[.val (.ref va), .val (.int (0 : Int32)), .val (.int (2 : Int32)), .val (.ref b1), .unset, .unset]) rfl k_) ?_
  refine own_st (T' := T1) (g' := (mkF m 5 #[.val (.ref va), .val (.int (0 : Int32)), .val (.int (2 : Int32)), .val (.ref b1), .unset, .unset] [(.ref va)])) (fun t_ k_ => XS.aloadN X1.here hx rfl (hb hby d4_4) rfl rfl  k_) ?_
  refine own_st (T' := T1) (g' := (mkF m 6 #[.val (.ref va), .val (.int (0 : Int32)), .val (.int (2 : Int32)), .val (.ref b1), .unset, .unset] [(.int (0 : Int32)), (.ref va)])) (fun t_ k_ => XS.iloadN X1.here hx rfl (hb hby d4_5) rfl  k_) ?_
  refine own_st (T' := T1) (g' := (mkF m 7 #[.val (.ref va), .val (.int (0 : Int32)), .val (.int (2 : Int32)), .val (.ref b1), .unset, .unset] [(.ref b1), (.int (0 : Int32)), (.ref va)])) (fun t_ k_ => XS.aloadN X1.here hx rfl (hb hby d4_6) rfl rfl  k_) ?_
  refine own_st (T' := T1) (g' := (mkF m 8 #[.val (.ref va), .val (.int (0 : Int32)), .val (.int (2 : Int32)), .val (.ref b1), .unset, .unset] [(.int (0 : Int32)), (.ref b1), (.int (0 : Int32)), (.ref va)])) (fun t_ k_ => XS.iconst X1.here hx rfl (hb hby d4_7) k_) ?_
  refine own_st (T' := T1) (g' := (mkF m 9 #[.val (.ref va), .val (.int (0 : Int32)), .val (.int (2 : Int32)), .val (.ref b1), .unset, .unset] [(.int (2 : Int32)), (.int (0 : Int32)), (.ref b1), (.int (0 : Int32)), (.ref va)])) (fun t_ k_ => XS.iloadN X1.here hx rfl (hb hby d4_8) rfl  k_) ?_
  have f2 : Arv Z h1 va kc .char (2 : Int32) [(.int c0), (.int c1)] (.int (0 : Int32)) := VA.ext E1
  have ne3 : va ≠ b1 := Nat.ne_of_lt (Nat.lt_of_lt_of_le VA.lt (Nat.le_of_eq g1.symm))
  have f4 : Old Z n0 h1 := O0.ext E1
  obtain ⟨_, _, ⟨T5, L5, k5, n5⟩, -, X5, ⟨Lc5, hQ5, l5, y5, z5⟩, st5⟩ := Jvm.LawKit.callS X1 hx (y := (⟨"java/lang/StringUTF16", "compress", "([CI[BII)I"⟩ : MethodName)) hown (mvT hZ (hw _ (List.mem_of_getElem? (i := 20) rfl))) (mvT hZ (hw _ (List.mem_of_getElem? (i := 21) rfl))) (mvT hZ (hw _ (List.mem_of_getElem? (i := 17) rfl))) (mvT hZ (hw _ (List.mem_of_getElem? (i := 22) rfl))) (by decide) (backOf (W := 0) (rm_cmp5_2 l Z a0 hw [] va b1 kc k1 c0 c1 h1 n0 f4 f2 V1 ne3 fr1 hp0 hp1) hZ (hw _ (List.mem_of_getElem? (i := 22) rfl)) (hw _ (List.mem_of_getElem? (i := 17) rfl)) (by decide) (by decide)) (g := (mkF m 9 #[.val (.ref va), .val (.int (0 : Int32)), .val (.int (2 : Int32)), .val (.ref b1), .unset, .unset] [(.int (2 : Int32)), (.int (0 : Int32)), (.ref b1), (.int (0 : Int32)), (.ref va)])) rfl (by rw [hml]; rfl) (argsL := [(.ref va), (.int (0 : Int32)), (.ref b1), (.int (0 : Int32)), (.int (2 : Int32))]) (rest := []) (lenOf pd___CI_BII_I rfl) rfl (by show 2 * 0 + _ ≤ _; exact Nat.le_of_eq rfl) (hb hby d4_9) (fun _ _ => ⟨rfl, e1, (by decide : 1 + 0 ≤ _), (by decide : 2 + 0 ≤ _)⟩)
  dsimp only [Pt.U, Pt.locs, Pt.cells, Pt.slots] at X5 l5 y5 z5 st5 hQ5
  subst l5 y5 z5
  obtain ⟨rfl, Nq5, K5, fq5_0⟩ := hQ5
  have N5 := Fr.app N0 Nq5
  refine own_st (T' := T5) (g' := (mkF m 12 #[.val (.ref va), .val (.int (0 : Int32)), .val (.int (2 : Int32)), .val (.ref b1), .unset, .unset] [(.int (2 : Int32))])) st5 ?_
  refine own_st (T' := T5) (g' := (mkF m 14 #[.val (.ref va), .val (.int (0 : Int32)), .val (.int (2 : Int32)), .val (.ref b1), .val (.int (2 : Int32)), .unset] [])) (fun t_ k_ => XS.istore X5.here hx rfl (hb hby d4_12) rfl (l' := #[.val (.ref va), .val (.int (0 : Int32)), .val (.int (2 : Int32)), .val (.ref b1), .val (.int (2 : Int32)), .unset]) rfl k_) ?_
  refine own_st (T' := T5) (g' := (mkF m 16 #[.val (.ref va), .val (.int (0 : Int32)), .val (.int (2 : Int32)), .val (.ref b1), .val (.int (2 : Int32)), .unset] [(.int (2 : Int32))])) (fun t_ k_ => XS.iload X5.here hx rfl (hb hby d4_14) rfl  k_) ?_
  refine own_st (T' := T5) (g' := (mkF m 17 #[.val (.ref va), .val (.int (0 : Int32)), .val (.int (2 : Int32)), .val (.ref b1), .val (.int (2 : Int32)), .unset] [(.int (2 : Int32)), (.int (2 : Int32))])) (fun t_ k_ => XS.iloadN X5.here hx rfl (hb hby d4_16) rfl  k_) ?_
  refine own_st (T' := T5) (g' := (mkF m 57 #[.val (.ref va), .val (.int (0 : Int32)), .val (.int (2 : Int32)), .val (.ref b1), .val (.int (2 : Int32)), .unset] [])) (fun t_ k_ => XS.icmpYes X5.here hx rfl (pc0 := 17) (pc' := 57) rfl (hb hby d4_17) rfl (teq (rfl : (2 : Int32) = (2 : Int32))).1 (by decide) (by decide) k_) ?_
  refine own_st (T' := T5) (g' := (mkF m 58 #[.val (.ref va), .val (.int (0 : Int32)), .val (.int (2 : Int32)), .val (.ref b1), .val (.int (2 : Int32)), .unset] [(.ref b1)])) (fun t_ k_ => XS.aloadN X5.here hx rfl (hb hby d4_57) rfl rfl  k_) ?_
  have f6 : Keep h0 h1 [] := (Keep.refl h0 []).ext E1
  have f7 : Keep h0 T5.heap [] := f6.trans K5 (allS (Or.inr sz1) all0)
  exact own_retA X5 hx hret rfl rfl hlk (hb hby d4_58) (by decide) (by decide) ⟨b1, k1, rfl, N5, f7, fq5_0, sz1⟩
theorem d6_0 : decode jdk_52_method_15_code 0 = .ok (.iload_n 1, 1) := by decide +kernel
theorem d6_1 : decode jdk_52_method_15_code 1 = .ok (.aload_n 0, 1) := by decide +kernel
theorem d6_2 : decode jdk_52_method_15_code 2 = .ok (.arraylength, 1) := by decide +kernel
theorem d6_3 : decode jdk_52_method_15_code 3 = .ok (.isub, 1) := by decide +kernel
theorem d6_4 : decode jdk_52_method_15_code 4 = .ok (.bipush 31, 2) := by decide +kernel
theorem d6_6 : decode jdk_52_method_15_code 6 = .ok (.iushr, 1) := by decide +kernel
theorem d6_7 : decode jdk_52_method_15_code 7 = .ok (.i2b, 1) := by decide +kernel
theorem d6_8 : decode jdk_52_method_15_code 8 = .ok (.ireturn, 1) := by decide +kernel
theorem ef_cdr_2 (m : MethodId) (x0 : Addr) (x1 : Int32) : entryFrame m #[(.ref x0), (.int x1)] 2 = mkF m 0 #[.val (.ref x0), .val (.int x1)] [] := by first | (simp [entryFrame, mkF, argsToLocals, Value.category]; done) | rfl
def Q_cdr_2 (Z : State) (t : Addr) (kb : ClassId) (vs : List Value) (h0 : Heap) (n0 : Nat) (v : Option Value) (h : Heap) (L : List Loc) : Prop := (v = some (.int (0 : Int32))) ∧ (Fr n0 L) ∧ (h = h0)
set_option maxRecDepth 65536 in
set_option maxHeartbeats 40000000 in
theorem rm_cdr_2 (l : Launch) (Z : State) (a0 : Array Value) (hw : ∀ d ∈ tables_1, d.before a0 Z = true) (ws : List Jvm.Cond) (t : Addr) (kb : ClassId) (vs : List Value) (h0 : Heap) (n0 : Nat) (O0 : Old Z n0 h0) (VT : Arv Z h0 t kb .byte (2 : Int32) vs (.int (0 : Int32))) :
    MetFree l (⟨"java/lang/StringUTF16", "coderFromArrayLen", "([BI)B"⟩ : MethodName) (head1 (Jvm.Cond.code (⟨"java/lang/StringUTF16", "coderFromArrayLen", "([BI)B"⟩ : MethodName) jdk_52_method_15_code 2 (some .byte) :: ws) ({ frames := 0, cells := 0, slots := 0, locals := 0 } : Room)) (fun ar_ U => ar_ = #[(.ref t), (.int (2 : Int32))] ∧ Z.Warmed39 U.vm ∧ U.heap = h0) (fun _ _ _ _ _ => True) (fun _ U o U' => ∃ v L, o = .returned v ∧ Q_cdr_2 Z t kb vs h0 n0 v U'.heap L ∧ FrameEnd U o U' L ({ frames := 0, cells := 0, slots := 0, locals := 0 } : Room).cells ({ frames := 0, cells := 0, slots := 0, locals := 0 } : Room).slots) := by
  refine MetFree.of_bodySF (plainFor_of_name pn_0) hisR ?_
  intro p e s m args below meth c s₁ Bd hml0 hP hK
  obtain ⟨rfl, hZ, hh⟩ := hP
  have hx := Bd.exec
  have hby := Bd.bytes
  have hml : c.maxLocals = 2 := hml0
  have hown : s.vm.findClass "java/lang/StringUTF16" = some m.cls := findClass_of_methodNamed Bd.named
  have hnm := (name_of_methodNamed Bd.named Bd.method).1
  have X0 : Stand p l e ({ frames := 0, cells := 0, slots := 0, locals := 0 } : Room) s m #[(.ref t), (.int (2 : Int32))] below meth c s₁ [] 0 0 := Stand.of_body Bd
  have e0 : s₁.heap = h0 := by rw [← hh, Bd.state]; rfl
  have N0 := Fr.nil n0
  have hret := Bd.returns
  have hlk : meth.locks = false := Bd.notSynchronized
  show own_E p e below s ({ frames := 0, cells := 0, slots := 0, locals := 0 } : Room).cells ({ frames := 0, cells := 0, slots := 0, locals := 0 } : Room).slots (Q_cdr_2 Z t kb vs h0 n0) s₁ (entryFrame m #[(.ref t), (.int (2 : Int32))] 2)
  rw [ef_cdr_2 m t (2 : Int32)]
  refine own_st (T' := s₁) (g' := (mkF m 1 #[.val (.ref t), .val (.int (2 : Int32))] [(.int (2 : Int32))])) (fun t_ k_ => XS.iloadN X0.here hx rfl (hb hby d6_0) rfl  k_) ?_
  refine own_st (T' := s₁) (g' := (mkF m 2 #[.val (.ref t), .val (.int (2 : Int32))] [(.ref t), (.int (2 : Int32))])) (fun t_ k_ => XS.aloadN X0.here hx rfl (hb hby d6_1) rfl rfl  k_) ?_
  obtain ⟨cl1, Ar1, -, S1, N1, -, -⟩ := id VT
  refine own_st (T' := s₁) (g' := (mkF m 3 #[.val (.ref t), .val (.int (2 : Int32))] [(.int (2 : Int32)), (.int (2 : Int32))])) (fun t_ k_ => X0.arraylength hx (by rw [e0]; exact Ar1.1) (State.isArrayOf_alike hZ.alike Ar1.2.1) (g := (mkF m 2 #[.val (.ref t), .val (.int (2 : Int32))] [(.ref t), (.int (2 : Int32))])) rfl rfl (hb hby d6_2) _ (by rw [len_of S1 N1]; exact k_)) ?_
  refine own_st (T' := s₁) (g' := (mkF m 4 #[.val (.ref t), .val (.int (2 : Int32))] [(.int (0 : Int32))])) (fun t_ k_ => XS.isub X0.here hx rfl (hb hby d6_3) rfl k_) ?_
  refine own_st (T' := s₁) (g' := (mkF m 6 #[.val (.ref t), .val (.int (2 : Int32))] [(.int (31 : Int32)), (.int (0 : Int32))])) (fun t_ k_ => XS.bipush X0.here hx rfl (hb hby d6_4) k_) ?_
  refine own_st (T' := s₁) (g' := (mkF m 7 #[.val (.ref t), .val (.int (2 : Int32))] [(.int (((0 : Int32).toUInt32 >>> ((31 : Int32) &&& 31).toUInt32).toInt32))])) (fun t_ k_ => XS.iushr X0.here hx rfl (hb hby d6_6) rfl k_) ?_
  refine own_st (T' := s₁) (g' := (mkF m 8 #[.val (.ref t), .val (.int (2 : Int32))] [(.int ((((0 : Int32).toUInt32 >>> ((31 : Int32) &&& 31).toUInt32).toInt32).toInt8.toInt32))])) (fun t_ k_ => XS.i2b X0.here hx rfl (hb hby d6_7) rfl k_) ?_
  exact own_retN X0 hx (t := .byte) hret (by simp) hlk (hb hby d6_8) (by decide) (by decide) ⟨(by decide), N0, e0⟩
theorem d2_0 : decode jdk_42_method_149_code 0 = .ok (.aload_n 0, 1) := by decide +kernel
theorem d2_1 : decode jdk_42_method_149_code 1 = .ok (.invokespecial 1, 3) := by decide +kernel
theorem d2_4 : decode jdk_42_method_149_code 4 = .ok (.iload_n 3, 1) := by decide +kernel
theorem d2_5 : decode jdk_42_method_149_code 5 = .ok (.ifCond .ne 22, 3) := by decide +kernel
theorem d2_27 : decode jdk_42_method_149_code 27 = .ok (.getstatic 38, 3) := by decide +kernel
theorem d2_30 : decode jdk_42_method_149_code 30 = .ok (.ifCond .eq 28, 3) := by decide +kernel
theorem d2_33 : decode jdk_42_method_149_code 33 = .ok (.aload_n 1, 1) := by decide +kernel
theorem d2_34 : decode jdk_42_method_149_code 34 = .ok (.iload_n 2, 1) := by decide +kernel
theorem d2_35 : decode jdk_42_method_149_code 35 = .ok (.iload_n 3, 1) := by decide +kernel
theorem d2_36 : decode jdk_42_method_149_code 36 = .ok (.invokestatic 177, 3) := by decide +kernel
theorem d2_39 : decode jdk_42_method_149_code 39 = .ok (.astore 5, 2) := by decide +kernel
theorem d2_41 : decode jdk_42_method_149_code 41 = .ok (.aload_n 0, 1) := by decide +kernel
theorem d2_42 : decode jdk_42_method_149_code 42 = .ok (.aload 5, 2) := by decide +kernel
theorem d2_44 : decode jdk_42_method_149_code 44 = .ok (.iload_n 3, 1) := by decide +kernel
theorem d2_45 : decode jdk_42_method_149_code 45 = .ok (.invokestatic 47, 3) := by decide +kernel
theorem d2_48 : decode jdk_42_method_149_code 48 = .ok (.putfield 15, 3) := by decide +kernel
theorem d2_51 : decode jdk_42_method_149_code 51 = .ok (.aload_n 0, 1) := by decide +kernel
theorem d2_52 : decode jdk_42_method_149_code 52 = .ok (.aload 5, 2) := by decide +kernel
theorem d2_54 : decode jdk_42_method_149_code 54 = .ok (.putfield 9, 3) := by decide +kernel
theorem d2_57 : decode jdk_42_method_149_code 57 = .ok (.return_, 1) := by decide +kernel
theorem pd___CII__B : parseMethodDescriptor "([CII)[B" = some ⟨[(.array .char), .int, .int], some (.array .byte)⟩ := by decide +kernel
theorem pd___BI_B : parseMethodDescriptor "([BI)B" = some ⟨[(.array .byte), .int], some .byte⟩ := by decide +kernel
theorem pn_1 : plainName "java/lang/String" = true := by first | (simp [plainName, overriddenIn]; done) | decide +kernel
theorem ef_ini4_2 (m : MethodId) (x0 : Addr) (x1 : Addr) (x2 : Int32) (x3 : Int32) : entryFrame m #[(.ref x0), (.ref x1), (.int x2), (.int x3), .null] 6 = mkF m 0 #[.val (.ref x0), .val (.ref x1), .val (.int x2), .val (.int x3), .val .null, .unset] [] := by first | (simp [entryFrame, mkF, argsToLocals, Value.category]; done) | rfl
def Q_ini4_2 (Z : State) (a : Addr) (va : Addr) (kc : ClassId) (cz : Int32) (c0 : Int32) (c1 : Int32) (h0 : Heap) (n0 : Nat) (v : Option Value) (h : Heap) (L : List Loc) : Prop := ∃ (t : Addr) (kb : ClassId), (v = none) ∧ (Fr n0 L) ∧ (Keep h0 h [a]) ∧ (Exa Z h a "java/lang/String") ∧ (Fld Z h a "java/lang/String" "coder" "B" (.int (0 : Int32))) ∧ (Fld Z h a "java/lang/String" "value" "[B" (.ref t)) ∧ (Arv Z h t kb .byte (2 : Int32) [(.int (nar .byte (c0.toInt8.toInt32))), (.int (nar .byte (c1.toInt8.toInt32)))] (.int (0 : Int32))) ∧ (h0.size ≤ t)
set_option maxRecDepth 65536 in
set_option maxHeartbeats 40000000 in
theorem rm_ini4_2 (l : Launch) (Z : State) (a0 : Array Value) (hw : ∀ d ∈ tables_1, d.before a0 Z = true) (ws : List Jvm.Cond) (a : Addr) (va : Addr) (kc : ClassId) (cz : Int32) (c0 : Int32) (c1 : Int32) (h0 : Heap) (n0 : Nat) (O0 : Old Z n0 h0) (EA : Exa Z h0 a "java/lang/String") (FV : Fld Z h0 a "java/lang/String" "value" "[B" .null) (FC : Fld Z h0 a "java/lang/String" "coder" "B" (.int (0 : Int32))) (fa : n0 ≤ a) (VA : Arv Z h0 va kc .char (2 : Int32) [(.int c0), (.int c1)] (.int (0 : Int32))) (SC : Sta Z Z.heap "java/lang/String" "COMPACT_STRINGS" "Z" (.int cz)) (hcz : ¬ cz = (0 : Int32)) (hp0 : ¬ (255 : Int32) < c0) (hp1 : ¬ (255 : Int32) < c1) :
    MetFree l (⟨"java/lang/String", "<init>", "([CIILjava/lang/Void;)V"⟩ : MethodName) (head1 (Jvm.Cond.code (⟨"java/lang/String", "<init>", "([CIILjava/lang/Void;)V"⟩ : MethodName) jdk_42_method_149_code 6 none :: ws) ({ frames := 2, cells := 1, slots := 2, locals := 35 } : Room)) (fun ar_ U => ar_ = #[(.ref a), (.ref va), (.int (0 : Int32)), (.int (2 : Int32)), .null] ∧ Z.Warmed39 U.vm ∧ U.heap = h0) (fun _ _ _ _ _ => True) (fun _ U o U' => ∃ v L, o = .returned v ∧ Q_ini4_2 Z a va kc cz c0 c1 h0 n0 v U'.heap L ∧ FrameEnd U o U' L ({ frames := 2, cells := 1, slots := 2, locals := 35 } : Room).cells ({ frames := 2, cells := 1, slots := 2, locals := 35 } : Room).slots) := by
  refine MetFree.of_bodySF (plainFor_of_name pn_1) hisR ?_
  intro p e s m args below meth c s₁ Bd hml0 hP hK
  obtain ⟨rfl, hZ, hh⟩ := hP
  have hx := Bd.exec
  have hby := Bd.bytes
  have hml : c.maxLocals = 6 := hml0
  have hown : s.vm.findClass "java/lang/String" = some m.cls := findClass_of_methodNamed Bd.named
  have hnm := (name_of_methodNamed Bd.named Bd.method).1
  have X0 : Stand p l e ({ frames := 2, cells := 1, slots := 2, locals := 35 } : Room) s m #[(.ref a), (.ref va), (.int (0 : Int32)), (.int (2 : Int32)), .null] below meth c s₁ [] 0 0 := Stand.of_body Bd
  have e0 : s₁.heap = h0 := by rw [← hh, Bd.state]; rfl
  have N0 := Fr.nil n0
  have hret := Bd.returns
  have hlk : meth.locks = false := Bd.notSynchronized
  show own_E p e below s ({ frames := 2, cells := 1, slots := 2, locals := 35 } : Room).cells ({ frames := 2, cells := 1, slots := 2, locals := 35 } : Room).slots (Q_ini4_2 Z a va kc cz c0 c1 h0 n0) s₁ (entryFrame m #[(.ref a), (.ref va), (.int (0 : Int32)), (.int (2 : Int32)), .null] 6)
  rw [ef_ini4_2 m a va (0 : Int32) (2 : Int32)]
  refine own_st (T' := s₁) (g' := (mkF m 1 #[.val (.ref a), .val (.ref va), .val (.int (0 : Int32)), .val (.int (2 : Int32)), .val .null, .unset] [(.ref a)])) (fun t_ k_ => XS.aloadN X0.here hx rfl (hb hby d2_0) rfl rfl  k_) ?_
  obtain ⟨T1, X1, e1, st1⟩ := initO X0 hx hZ hown (hw _ (List.mem_of_getElem? (i := 11) rfl)) (hw _ (List.mem_of_getElem? (i := 12) rfl)) (hw _ (List.mem_of_getElem? (i := 13) rfl)) e0 (g := (mkF m 1 #[.val (.ref a), .val (.ref va), .val (.int (0 : Int32)), .val (.int (2 : Int32)), .val .null, .unset] [(.ref a)])) rfl (by rw [hml]; rfl) rfl (hb hby d2_1) (by decide) (W := 0) (by show 2 * 0 + _ ≤ _; exact Nat.le_of_eq rfl) (by decide)
  refine own_st (T' := T1) (g' := (mkF m 4 #[.val (.ref a), .val (.ref va), .val (.int (0 : Int32)), .val (.int (2 : Int32)), .val .null, .unset] [])) st1 ?_
  refine own_st (T' := T1) (g' := (mkF m 5 #[.val (.ref a), .val (.ref va), .val (.int (0 : Int32)), .val (.int (2 : Int32)), .val .null, .unset] [(.int (2 : Int32))])) (fun t_ k_ => XS.iloadN X1.here hx rfl (hb hby d2_4) rfl  k_) ?_
  refine own_st (T' := T1) (g' := (mkF m 27 #[.val (.ref a), .val (.ref va), .val (.int (0 : Int32)), .val (.int (2 : Int32)), .val .null, .unset] [])) (fun t_ k_ => XS.ifYes X1.here hx rfl (pc0 := 5) (pc' := 27) rfl (hb hby d2_5) rfl ((if0 _ _).trans (feq (by decide : ¬ ((2 : Int32) = (0 : Int32)))).2) (by decide) (by decide) k_) ?_
  obtain ⟨T2, X2, e2, st2⟩ := getS2 X1 hx hZ hown (host := "") (Or.inl (hw _ (List.mem_of_getElem? (i := 14) rfl))) Via.refl e1 (SC.ext O0.2) (g := (mkF m 27 #[.val (.ref a), .val (.ref va), .val (.int (0 : Int32)), .val (.int (2 : Int32)), .val .null, .unset] [])) rfl (hb hby d2_27)
  refine own_st (T' := T2) (g' := (mkF m 30 #[.val (.ref a), .val (.ref va), .val (.int (0 : Int32)), .val (.int (2 : Int32)), .val .null, .unset] [(.int cz)])) st2 ?_
  refine own_st (T' := T2) (g' := (mkF m 33 #[.val (.ref a), .val (.ref va), .val (.int (0 : Int32)), .val (.int (2 : Int32)), .val .null, .unset] [])) (fun t_ k_ => XS.ifNo X2.here hx rfl (hb hby d2_30) rfl ((if0 _ _).trans (feq (hcz : ¬ (cz = (0 : Int32)))).1) k_) ?_
  refine own_st (T' := T2) (g' := (mkF m 34 #[.val (.ref a), .val (.ref va), .val (.int (0 : Int32)), .val (.int (2 : Int32)), .val .null, .unset] [(.ref va)])) (fun t_ k_ => XS.aloadN X2.here hx rfl (hb hby d2_33) rfl rfl  k_) ?_
  refine own_st (T' := T2) (g' := (mkF m 35 #[.val (.ref a), .val (.ref va), .val (.int (0 : Int32)), .val (.int (2 : Int32)), .val .null, .unset] [(.int (0 : Int32)), (.ref va)])) (fun t_ k_ => XS.iloadN X2.here hx rfl (hb hby d2_34) rfl  k_) ?_
  refine own_st (T' := T2) (g' := (mkF m 36 #[.val (.ref a), .val (.ref va), .val (.int (0 : Int32)), .val (.int (2 : Int32)), .val .null, .unset] [(.int (2 : Int32)), (.int (0 : Int32)), (.ref va)])) (fun t_ k_ => XS.iloadN X2.here hx rfl (hb hby d2_35) rfl  k_) ?_
  obtain ⟨_, _, ⟨T3, L3, k3, n3⟩, -, X3, ⟨Lc3, hQ3, l3, y3, z3⟩, st3⟩ := Jvm.LawKit.callS X2 hx (y := (⟨"java/lang/StringUTF16", "compress", "([CII)[B"⟩ : MethodName)) hown (mvT hZ (hw _ (List.mem_of_getElem? (i := 15) rfl))) (mvT hZ (hw _ (List.mem_of_getElem? (i := 16) rfl))) (mvT hZ (hw _ (List.mem_of_getElem? (i := 17) rfl))) (mvT hZ (hw _ (List.mem_of_getElem? (i := 18) rfl))) (by decide) (backOf (W := 0) (rm_cmp3_2 l Z a0 hw [] va kc c0 c1 h0 n0 O0 VA hp0 hp1) hZ (hw _ (List.mem_of_getElem? (i := 18) rfl)) (hw _ (List.mem_of_getElem? (i := 17) rfl)) (by decide) (by decide)) (g := (mkF m 36 #[.val (.ref a), .val (.ref va), .val (.int (0 : Int32)), .val (.int (2 : Int32)), .val .null, .unset] [(.int (2 : Int32)), (.int (0 : Int32)), (.ref va)])) rfl (by rw [hml]; rfl) (argsL := [(.ref va), (.int (0 : Int32)), (.int (2 : Int32))]) (rest := []) (lenOf pd___CII__B rfl) rfl (by show 2 * 0 + _ ≤ _; exact Nat.le_of_eq rfl) (hb hby d2_36) (fun _ _ => ⟨rfl, e2, (by decide : 0 + 1 ≤ _), (by decide : 0 + 2 ≤ _)⟩)
  dsimp only [Pt.U, Pt.locs, Pt.cells, Pt.slots] at X3 l3 y3 z3 st3 hQ3
  subst l3 y3 z3
  obtain ⟨t3, kb3, rfl, Nq3, K3, fq3_0, xq3_fresh_t⟩ := hQ3
  have N3 := Fr.app N0 Nq3
  refine own_st (T' := T3) (g' := (mkF m 39 #[.val (.ref a), .val (.ref va), .val (.int (0 : Int32)), .val (.int (2 : Int32)), .val .null, .unset] [(.ref t3)])) st3 ?_
  refine own_st (T' := T3) (g' := (mkF m 41 #[.val (.ref a), .val (.ref va), .val (.int (0 : Int32)), .val (.int (2 : Int32)), .val .null, .val (.ref t3)] [])) (fun t_ k_ => XS.astore X3.here hx rfl (hb hby d2_39) rfl rfl (l' := #[.val (.ref a), .val (.ref va), .val (.int (0 : Int32)), .val (.int (2 : Int32)), .val .null, .val (.ref t3)]) rfl k_) ?_
  refine own_st (T' := T3) (g' := (mkF m 42 #[.val (.ref a), .val (.ref va), .val (.int (0 : Int32)), .val (.int (2 : Int32)), .val .null, .val (.ref t3)] [(.ref a)])) (fun t_ k_ => XS.aloadN X3.here hx rfl (hb hby d2_41) rfl rfl  k_) ?_
  refine own_st (T' := T3) (g' := (mkF m 44 #[.val (.ref a), .val (.ref va), .val (.int (0 : Int32)), .val (.int (2 : Int32)), .val .null, .val (.ref t3)] [(.ref t3), (.ref a)])) (fun t_ k_ => XS.aload X3.here hx rfl (hb hby d2_42) rfl rfl  k_) ?_
  refine own_st (T' := T3) (g' := (mkF m 45 #[.val (.ref a), .val (.ref va), .val (.int (0 : Int32)), .val (.int (2 : Int32)), .val .null, .val (.ref t3)] [(.int (2 : Int32)), (.ref t3), (.ref a)])) (fun t_ k_ => XS.iloadN X3.here hx rfl (hb hby d2_44) rfl  k_) ?_
  have f4 : Old Z n0 T3.heap := O0.keep K3 all0
  obtain ⟨_, _, ⟨T5, L5, k5, n5⟩, -, X5, ⟨Lc5, hQ5, l5, y5, z5⟩, st5⟩ := Jvm.LawKit.callS X3 hx (y := (⟨"java/lang/StringUTF16", "coderFromArrayLen", "([BI)B"⟩ : MethodName)) hown (mvT hZ (hw _ (List.mem_of_getElem? (i := 23) rfl))) (mvT hZ (hw _ (List.mem_of_getElem? (i := 24) rfl))) (mvT hZ (hw _ (List.mem_of_getElem? (i := 17) rfl))) (mvT hZ (hw _ (List.mem_of_getElem? (i := 25) rfl))) (by decide) (backOf (W := 1) (rm_cdr_2 l Z a0 hw [] t3 kb3 [(.int (nar .byte (c0.toInt8.toInt32))), (.int (nar .byte (c1.toInt8.toInt32)))] T3.heap n0 f4 fq3_0) hZ (hw _ (List.mem_of_getElem? (i := 25) rfl)) (hw _ (List.mem_of_getElem? (i := 17) rfl)) (by decide) (by decide)) (g := (mkF m 45 #[.val (.ref a), .val (.ref va), .val (.int (0 : Int32)), .val (.int (2 : Int32)), .val .null, .val (.ref t3)] [(.int (2 : Int32)), (.ref t3), (.ref a)])) rfl (by rw [hml]; rfl) (argsL := [(.ref t3), (.int (2 : Int32))]) (rest := [(.ref a)]) (lenOf pd___BI_B rfl) rfl (by show 2 * 0 + _ ≤ _; exact Nat.le_of_eq rfl) (hb hby d2_45) (fun _ _ => ⟨rfl, rfl, (by decide : 1 + 0 ≤ _), (by decide : 2 + 0 ≤ _)⟩)
  dsimp only [Pt.U, Pt.locs, Pt.cells, Pt.slots] at X5 l5 y5 z5 st5 hQ5
  subst l5 y5 z5
  obtain ⟨rfl, Nq5, eq5⟩ := hQ5
  have N5 := Fr.app N3 Nq5
  refine own_st (T' := T5) (g' := (mkF m 48 #[.val (.ref a), .val (.ref va), .val (.int (0 : Int32)), .val (.int (2 : Int32)), .val .null, .val (.ref t3)] [(.int (0 : Int32)), (.ref a)])) st5 ?_
  have f6 : Exa Z T3.heap a "java/lang/String" := EA.keep K3
  have f7 : Fld Z T3.heap a "java/lang/String" "coder" "B" (.int (0 : Int32)) := FC.keep K3 nin0
  obtain ⟨T8, h8, X8, e8, W8, st8⟩ := putFN X5 hx hZ hown (hw _ (List.mem_of_getElem? (i := 26) rfl)) Via.refl eq5 f7 f6 (Or.inr ⟨(hw _ (List.mem_of_getElem? (i := 27) rfl)), rfl, hnm⟩) (hw _ (List.mem_of_getElem? (i := 2) rfl)) (ty := .byte) (v' := (.int (0 : Int32))) (by decide) rfl (by decide) (g := (mkF m 48 #[.val (.ref a), .val (.ref va), .val (.int (0 : Int32)), .val (.int (2 : Int32)), .val .null, .val (.ref t3)] [(.int (0 : Int32)), (.ref a)])) rfl rfl (hb hby d2_48)
  have Fw8 : Fld Z h8 a "java/lang/String" "coder" "B" (.int (0 : Int32)) := Fld.same W8 f7
  have N8 := Fr.snoc X8 N5 fa
  refine own_st (T' := T8) (g' := (mkF m 51 #[.val (.ref a), .val (.ref va), .val (.int (0 : Int32)), .val (.int (2 : Int32)), .val .null, .val (.ref t3)] [])) st8 ?_
  refine own_st (T' := T8) (g' := (mkF m 52 #[.val (.ref a), .val (.ref va), .val (.int (0 : Int32)), .val (.int (2 : Int32)), .val .null, .val (.ref t3)] [(.ref a)])) (fun t_ k_ => XS.aloadN X8.here hx rfl (hb hby d2_51) rfl rfl  k_) ?_
  refine own_st (T' := T8) (g' := (mkF m 54 #[.val (.ref a), .val (.ref va), .val (.int (0 : Int32)), .val (.int (2 : Int32)), .val .null, .val (.ref t3)] [(.ref t3), (.ref a)])) (fun t_ k_ => XS.aload X8.here hx rfl (hb hby d2_52) rfl rfl  k_) ?_
  have f9 : Exa Z h8 a "java/lang/String" := f6.wr W8
  have f10 : Fld Z T3.heap a "java/lang/String" "value" "[B" .null := FV.keep K3 nin0
  have f11 : Fld Z h8 a "java/lang/String" "value" "[B" .null := f10.other W8 (Or.inr (slot_ne (Or.inr (hw _ (List.mem_of_getElem? (i := 29) rfl))) (Or.inr (hw _ (List.mem_of_getElem? (i := 27) rfl))) (by decide) (t := (.array .byte)) (t' := .byte) (by decide) (by decide)))
  obtain ⟨T12, h12, X12, e12, W12, st12⟩ := putF X8 hx hZ hown (host := "") (Or.inl (hw _ (List.mem_of_getElem? (i := 28) rfl))) Via.refl e8 f11 f9 (Or.inr ⟨(hw _ (List.mem_of_getElem? (i := 29) rfl)), rfl, hnm⟩) (hw _ (List.mem_of_getElem? (i := 2) rfl)) (ty := (.array .byte)) (by decide) rfl rfl (g := (mkF m 54 #[.val (.ref a), .val (.ref va), .val (.int (0 : Int32)), .val (.int (2 : Int32)), .val .null, .val (.ref t3)] [(.ref t3), (.ref a)])) rfl rfl (hb hby d2_54)
  have Fw12 : Fld Z h12 a "java/lang/String" "value" "[B" (.ref t3) := Fld.same W12 f11
  have N12 := Fr.snoc X12 N8 fa
  refine own_st (T' := T12) (g' := (mkF m 57 #[.val (.ref a), .val (.ref va), .val (.int (0 : Int32)), .val (.int (2 : Int32)), .val .null, .val (.ref t3)] [])) st12 ?_
  have f13 : Keep h0 T3.heap [a] := (Keep.refl h0 [a]).trans K3 all0
  have f14 : Keep h0 h8 [a] := f13.wr W8 (Or.inl (List.mem_of_getElem? (i := 0) rfl))
  have f15 : Keep h0 h12 [a] := f14.wr W12 (Or.inl (List.mem_of_getElem? (i := 0) rfl))
  have f16 : Exa Z h12 a "java/lang/String" := f9.wr W12
  have f17 : Fld Z h12 a "java/lang/String" "coder" "B" (.int (0 : Int32)) := Fw8.other W12 (Or.inr (slot_ne (Or.inr (hw _ (List.mem_of_getElem? (i := 27) rfl))) (Or.inr (hw _ (List.mem_of_getElem? (i := 29) rfl))) (by decide) (t := .byte) (t' := (.array .byte)) (by decide) (by decide)))
  have ne18 : a ≠ t3 := Nat.ne_of_lt (Nat.lt_of_lt_of_le EA.lt xq3_fresh_t)
  have f19 : Arv Z h8 t3 kb3 .byte (2 : Int32) [(.int (nar .byte (c0.toInt8.toInt32))), (.int (nar .byte (c1.toInt8.toInt32)))] (.int (0 : Int32)) := fq3_0.other W8 (Ne.symm ne18)
  have f20 : Arv Z h12 t3 kb3 .byte (2 : Int32) [(.int (nar .byte (c0.toInt8.toInt32))), (.int (nar .byte (c1.toInt8.toInt32)))] (.int (0 : Int32)) := f19.other W12 (Ne.symm ne18)
  exact own_retV X12 hx hret hlk (hb hby d2_57) (by decide) (by decide) (by rw [e12]; exact ⟨t3, kb3, rfl, N12, f15, f16, f17, Fw12, f20, (Nat.le_trans (Keep.refl h0 [a]).1 xq3_fresh_t)⟩)
theorem d1_0 : decode jdk_42_method_3_code 0 = .ok (.aload_n 0, 1) := by decide +kernel
theorem d1_1 : decode jdk_42_method_3_code 1 = .ok (.aload_n 1, 1) := by decide +kernel
theorem d1_2 : decode jdk_42_method_3_code 2 = .ok (.iconst 0, 1) := by decide +kernel
theorem d1_3 : decode jdk_42_method_3_code 3 = .ok (.aload_n 1, 1) := by decide +kernel
theorem d1_4 : decode jdk_42_method_3_code 4 = .ok (.arraylength, 1) := by decide +kernel
theorem d1_5 : decode jdk_42_method_3_code 5 = .ok (.aconst_null, 1) := by decide +kernel
theorem d1_6 : decode jdk_42_method_3_code 6 = .ok (.invokespecial 27, 3) := by decide +kernel
theorem d1_9 : decode jdk_42_method_3_code 9 = .ok (.return_, 1) := by decide +kernel
theorem pd___CIILjava_lang_Void__V : parseMethodDescriptor "([CIILjava/lang/Void;)V" = some ⟨[(.array .char), .int, .int, (.object "java/lang/Void")], none⟩ := by decide +kernel
theorem ef_ini1_2 (m : MethodId) (x0 : Addr) (x1 : Addr) : entryFrame m #[(.ref x0), (.ref x1)] 2 = mkF m 0 #[.val (.ref x0), .val (.ref x1)] [] := by first | (simp [entryFrame, mkF, argsToLocals, Value.category]; done) | rfl
def Q_ini1_2 (Z : State) (a : Addr) (va : Addr) (kc : ClassId) (cz : Int32) (c0 : Int32) (c1 : Int32) (h0 : Heap) (n0 : Nat) (v : Option Value) (h : Heap) (L : List Loc) : Prop := ∃ (t : Addr) (kb : ClassId), (v = none) ∧ (Fr n0 L) ∧ (Keep h0 h [a]) ∧ (Exa Z h a "java/lang/String") ∧ (Fld Z h a "java/lang/String" "coder" "B" (.int (0 : Int32))) ∧ (Fld Z h a "java/lang/String" "value" "[B" (.ref t)) ∧ (Arv Z h t kb .byte (2 : Int32) [(.int (nar .byte (c0.toInt8.toInt32))), (.int (nar .byte (c1.toInt8.toInt32)))] (.int (0 : Int32))) ∧ (h0.size ≤ t)
set_option maxRecDepth 65536 in
set_option maxHeartbeats 40000000 in
theorem rm_ini1_2 (l : Launch) (Z : State) (a0 : Array Value) (hw : ∀ d ∈ tables_1, d.before a0 Z = true) (ws : List Jvm.Cond) (a : Addr) (va : Addr) (kc : ClassId) (cz : Int32) (c0 : Int32) (c1 : Int32) (h0 : Heap) (n0 : Nat) (O0 : Old Z n0 h0) (EA : Exa Z h0 a "java/lang/String") (FV : Fld Z h0 a "java/lang/String" "value" "[B" .null) (FC : Fld Z h0 a "java/lang/String" "coder" "B" (.int (0 : Int32))) (fa : n0 ≤ a) (VA : Arv Z h0 va kc .char (2 : Int32) [(.int c0), (.int c1)] (.int (0 : Int32))) (SC : Sta Z Z.heap "java/lang/String" "COMPACT_STRINGS" "Z" (.int cz)) (hcz : ¬ cz = (0 : Int32)) (hp0 : ¬ (255 : Int32) < c0) (hp1 : ¬ (255 : Int32) < c1) :
    MetFree l (⟨"java/lang/String", "<init>", "([C)V"⟩ : MethodName) (head1 (Jvm.Cond.code (⟨"java/lang/String", "<init>", "([C)V"⟩ : MethodName) jdk_42_method_3_code 2 none :: ws) ({ frames := 3, cells := 1, slots := 2, locals := 52 } : Room)) (fun ar_ U => ar_ = #[(.ref a), (.ref va)] ∧ Z.Warmed39 U.vm ∧ U.heap = h0) (fun _ _ _ _ _ => True) (fun _ U o U' => ∃ v L, o = .returned v ∧ Q_ini1_2 Z a va kc cz c0 c1 h0 n0 v U'.heap L ∧ FrameEnd U o U' L ({ frames := 3, cells := 1, slots := 2, locals := 52 } : Room).cells ({ frames := 3, cells := 1, slots := 2, locals := 52 } : Room).slots) := by
  refine MetFree.of_bodySF (plainFor_of_name pn_1) hisR ?_
  intro p e s m args below meth c s₁ Bd hml0 hP hK
  obtain ⟨rfl, hZ, hh⟩ := hP
  have hx := Bd.exec
  have hby := Bd.bytes
  have hml : c.maxLocals = 2 := hml0
  have hown : s.vm.findClass "java/lang/String" = some m.cls := findClass_of_methodNamed Bd.named
  have hnm := (name_of_methodNamed Bd.named Bd.method).1
  have X0 : Stand p l e ({ frames := 3, cells := 1, slots := 2, locals := 52 } : Room) s m #[(.ref a), (.ref va)] below meth c s₁ [] 0 0 := Stand.of_body Bd
  have e0 : s₁.heap = h0 := by rw [← hh, Bd.state]; rfl
  have N0 := Fr.nil n0
  have hret := Bd.returns
  have hlk : meth.locks = false := Bd.notSynchronized
  show own_E p e below s ({ frames := 3, cells := 1, slots := 2, locals := 52 } : Room).cells ({ frames := 3, cells := 1, slots := 2, locals := 52 } : Room).slots (Q_ini1_2 Z a va kc cz c0 c1 h0 n0) s₁ (entryFrame m #[(.ref a), (.ref va)] 2)
  rw [ef_ini1_2 m a va]
  refine own_st (T' := s₁) (g' := (mkF m 1 #[.val (.ref a), .val (.ref va)] [(.ref a)])) (fun t_ k_ => XS.aloadN X0.here hx rfl (hb hby d1_0) rfl rfl  k_) ?_
  refine own_st (T' := s₁) (g' := (mkF m 2 #[.val (.ref a), .val (.ref va)] [(.ref va), (.ref a)])) (fun t_ k_ => XS.aloadN X0.here hx rfl (hb hby d1_1) rfl rfl  k_) ?_
  refine own_st (T' := s₁) (g' := (mkF m 3 #[.val (.ref a), .val (.ref va)] [(.int (0 : Int32)), (.ref va), (.ref a)])) (fun t_ k_ => XS.iconst X0.here hx rfl (hb hby d1_2) k_) ?_
  refine own_st (T' := s₁) (g' := (mkF m 4 #[.val (.ref a), .val (.ref va)] [(.ref va), (.int (0 : Int32)), (.ref va), (.ref a)])) (fun t_ k_ => XS.aloadN X0.here hx rfl (hb hby d1_3) rfl rfl  k_) ?_
  obtain ⟨cl1, Ar1, -, S1, N1, -, -⟩ := id VA
  refine own_st (T' := s₁) (g' := (mkF m 5 #[.val (.ref a), .val (.ref va)] [(.int (2 : Int32)), (.int (0 : Int32)), (.ref va), (.ref a)])) (fun t_ k_ => X0.arraylength hx (by rw [e0]; exact Ar1.1) (State.isArrayOf_alike hZ.alike Ar1.2.1) (g := (mkF m 4 #[.val (.ref a), .val (.ref va)] [(.ref va), (.int (0 : Int32)), (.ref va), (.ref a)])) rfl rfl (hb hby d1_4) _ (by rw [len_of S1 N1]; exact k_)) ?_
  refine own_st (T' := s₁) (g' := (mkF m 6 #[.val (.ref a), .val (.ref va)] [.null, (.int (2 : Int32)), (.int (0 : Int32)), (.ref va), (.ref a)])) (fun t_ k_ => XS.aconstNull X0.here hx rfl (hb hby d1_5) k_) ?_
  obtain ⟨_, _, ⟨T2, L2, k2, n2⟩, -, X2, ⟨Lc2, hQ2, l2, y2, z2⟩, st2⟩ := X0.specialBack hx (y := (⟨"java/lang/String", "<init>", "([CIILjava/lang/Void;)V"⟩ : MethodName)) rfl hown (mvT hZ (hw _ (List.mem_of_getElem? (i := 7) rfl))) (mvT hZ (hw _ (List.mem_of_getElem? (i := 8) rfl))) (mvT hZ (hw _ (List.mem_of_getElem? (i := 10) rfl))) (by decide) (backOf (W := 0) (rm_ini4_2 l Z a0 hw [] a va kc cz c0 c1 h0 n0 O0 EA FV FC fa VA SC hcz hp0 hp1) hZ (hw _ (List.mem_of_getElem? (i := 10) rfl)) (hw _ (List.mem_of_getElem? (i := 3) rfl)) (by decide) (by decide)) (g := (mkF m 6 #[.val (.ref a), .val (.ref va)] [.null, (.int (2 : Int32)), (.int (0 : Int32)), (.ref va), (.ref a)])) rfl (by rw [hml]; rfl) (Steps.refl _) (a := a) (argsL := [(.ref va), (.int (0 : Int32)), (.int (2 : Int32)), .null]) (rest := []) (lenOf pd___CIILjava_lang_Void__V rfl) rfl (by show 2 * 0 + _ ≤ _; exact Nat.le_of_eq rfl) (hb hby d1_6) (fun _ _ => ⟨rfl, e0, (by decide : 0 + 1 ≤ _), (by decide : 0 + 2 ≤ _)⟩)
  dsimp only [Pt.U, Pt.locs, Pt.cells, Pt.slots] at X2 l2 y2 z2 st2 hQ2
  subst l2 y2 z2
  obtain ⟨t2, kb2, rfl, Nq2, K2, fq2_0, fq2_1, fq2_2, fq2_3, xq2_fresh_t⟩ := hQ2
  have N2 := Fr.app N0 Nq2
  refine own_st (T' := T2) (g' := (mkF m 9 #[.val (.ref a), .val (.ref va)] [])) (fun t_ k_ => st2.trans k_) ?_
  have f3 : Keep h0 T2.heap [a] := (Keep.refl h0 [a]).trans K2 (allS (Or.inl (List.mem_of_getElem? (i := 0) rfl)) all0)
  exact own_retV X2 hx hret hlk (hb hby d1_9) (by decide) (by decide) ⟨t2, kb2, rfl, N2, f3, fq2_0, fq2_1, fq2_2, fq2_3, (Nat.le_trans (Keep.refl h0 [a]).1 xq2_fresh_t)⟩
theorem d10_0 : decode jdk_30_method_1_code 0 = .ok (.aload_n 0, 1) := by decide +kernel
theorem d10_1 : decode jdk_30_method_1_code 1 = .ok (.invokespecial 1, 3) := by decide +kernel
theorem d10_4 : decode jdk_30_method_1_code 4 = .ok (.return_, 1) := by decide +kernel
theorem pn_2 : plainName "java/lang/Record" = true := by first | (simp [plainName, overriddenIn]; done) | decide +kernel
theorem ef_rec (m : MethodId) (x0 : Addr) : entryFrame m #[(.ref x0)] 1 = mkF m 0 #[.val (.ref x0)] [] := by first | (simp [entryFrame, mkF, argsToLocals, Value.category]; done) | rfl
def Q_rec (Z : State) (a : Addr) (h0 : Heap) (n0 : Nat) (v : Option Value) (h : Heap) (L : List Loc) : Prop := (v = none) ∧ (Fr n0 L) ∧ (h = h0)
set_option maxRecDepth 65536 in
set_option maxHeartbeats 40000000 in
theorem rm_rec (l : Launch) (Z : State) (a0 : Array Value) (hw : ∀ d ∈ tables_1, d.before a0 Z = true) (ws : List Jvm.Cond) (a : Addr) (h0 : Heap) (n0 : Nat) (O0 : Old Z n0 h0) :
    MetFree l (⟨"java/lang/Record", "<init>", "()V"⟩ : MethodName) (head1 (Jvm.Cond.code (⟨"java/lang/Record", "<init>", "()V"⟩ : MethodName) jdk_30_method_1_code 1 none :: ws) ({ frames := 1, cells := 0, slots := 0, locals := 12 } : Room)) (fun ar_ U => ar_ = #[(.ref a)] ∧ Z.Warmed39 U.vm ∧ U.heap = h0) (fun _ _ _ _ _ => True) (fun _ U o U' => ∃ v L, o = .returned v ∧ Q_rec Z a h0 n0 v U'.heap L ∧ FrameEnd U o U' L ({ frames := 1, cells := 0, slots := 0, locals := 12 } : Room).cells ({ frames := 1, cells := 0, slots := 0, locals := 12 } : Room).slots) := by
  refine MetFree.of_bodySF (plainFor_of_name pn_2) hisR ?_
  intro p e s m args below meth c s₁ Bd hml0 hP hK
  obtain ⟨rfl, hZ, hh⟩ := hP
  have hx := Bd.exec
  have hby := Bd.bytes
  have hml : c.maxLocals = 1 := hml0
  have hown : s.vm.findClass "java/lang/Record" = some m.cls := findClass_of_methodNamed Bd.named
  have hnm := (name_of_methodNamed Bd.named Bd.method).1
  have X0 : Stand p l e ({ frames := 1, cells := 0, slots := 0, locals := 12 } : Room) s m #[(.ref a)] below meth c s₁ [] 0 0 := Stand.of_body Bd
  have e0 : s₁.heap = h0 := by rw [← hh, Bd.state]; rfl
  have N0 := Fr.nil n0
  have hret := Bd.returns
  have hlk : meth.locks = false := Bd.notSynchronized
  show own_E p e below s ({ frames := 1, cells := 0, slots := 0, locals := 12 } : Room).cells ({ frames := 1, cells := 0, slots := 0, locals := 12 } : Room).slots (Q_rec Z a h0 n0) s₁ (entryFrame m #[(.ref a)] 1)
  rw [ef_rec m a]
  refine own_st (T' := s₁) (g' := (mkF m 1 #[.val (.ref a)] [(.ref a)])) (fun t_ k_ => XS.aloadN X0.here hx rfl (hb hby d10_0) rfl rfl  k_) ?_
  obtain ⟨T1, X1, e1, st1⟩ := initO X0 hx hZ hown (hw _ (List.mem_of_getElem? (i := 50) rfl)) (hw _ (List.mem_of_getElem? (i := 12) rfl)) (hw _ (List.mem_of_getElem? (i := 13) rfl)) e0 (g := (mkF m 1 #[.val (.ref a)] [(.ref a)])) rfl (by rw [hml]; rfl) rfl (hb hby d10_1) (by decide) (W := 0) (by show 2 * 0 + _ ≤ _; exact Nat.le_of_eq rfl) (by decide)
  refine own_st (T' := T1) (g' := (mkF m 4 #[.val (.ref a)] [])) st1 ?_
  exact own_retV X1 hx hret hlk (hb hby d10_4) (by decide) (by decide) ⟨rfl, N0, e1⟩
theorem d9_0 : decode prog_48_method_1_code 0 = .ok (.aload_n 0, 1) := by decide +kernel
theorem d9_1 : decode prog_48_method_1_code 1 = .ok (.invokespecial 1, 3) := by decide +kernel
theorem d9_4 : decode prog_48_method_1_code 4 = .ok (.aload_n 0, 1) := by decide +kernel
theorem d9_5 : decode prog_48_method_1_code 5 = .ok (.iload_n 1, 1) := by decide +kernel
theorem d9_6 : decode prog_48_method_1_code 6 = .ok (.putfield 7, 3) := by decide +kernel
theorem d9_9 : decode prog_48_method_1_code 9 = .ok (.aload_n 0, 1) := by decide +kernel
theorem d9_10 : decode prog_48_method_1_code 10 = .ok (.aload_n 2, 1) := by decide +kernel
theorem d9_11 : decode prog_48_method_1_code 11 = .ok (.putfield 13, 3) := by decide +kernel
theorem d9_14 : decode prog_48_method_1_code 14 = .ok (.aload_n 0, 1) := by decide +kernel
theorem d9_15 : decode prog_48_method_1_code 15 = .ok (.aload_n 3, 1) := by decide +kernel
theorem d9_16 : decode prog_48_method_1_code 16 = .ok (.putfield 17, 3) := by decide +kernel
theorem d9_19 : decode prog_48_method_1_code 19 = .ok (.aload_n 0, 1) := by decide +kernel
theorem d9_20 : decode prog_48_method_1_code 20 = .ok (.aload 4, 2) := by decide +kernel
theorem d9_22 : decode prog_48_method_1_code 22 = .ok (.putfield 21, 3) := by decide +kernel
theorem d9_25 : decode prog_48_method_1_code 25 = .ok (.return_, 1) := by decide +kernel
theorem pd___V : parseMethodDescriptor "()V" = some ⟨[], none⟩ := by decide +kernel
theorem pn_3 : plainName "com/example/ixora/ixora/web/Page" = true := by first | (simp [plainName, overriddenIn]; done) | decide +kernel
theorem ef_pini (m : MethodId) (x0 : Addr) (x1 : Int32) (x2 : Value) (x3 : Value) (x4 : Value) (hx2 : x2.isRef = true) (hx3 : x3.isRef = true) (hx4 : x4.isRef = true) : entryFrame m #[(.ref x0), (.int x1), x2, x3, x4] 5 = mkF m 0 #[.val (.ref x0), .val (.int x1), .val x2, .val x3, .val x4] [] := by
  rcases ref_cases hx2 with rfl | ⟨_, rfl⟩ <;> (
  rcases ref_cases hx3 with rfl | ⟨_, rfl⟩ <;> (
  rcases ref_cases hx4 with rfl | ⟨_, rfl⟩ <;> (first | (simp [entryFrame, mkF, argsToLocals, Value.category]; done) | rfl)))
def Q_pini (Z : State) (a : Addr) (sv : Int32) (tv : Value) (mv : Value) (lv : Value) (h0 : Heap) (n0 : Nat) (v : Option Value) (h : Heap) (L : List Loc) : Prop := (v = none) ∧ (Fr n0 L) ∧ (Keep h0 h [a]) ∧ (Exa Z h a "com/example/ixora/ixora/web/Page") ∧ (Fld Z h a "com/example/ixora/ixora/web/Page" "status" "I" (.int sv)) ∧ (Fld Z h a "com/example/ixora/ixora/web/Page" "template" "Ljava/lang/String;" tv) ∧ (Fld Z h a "com/example/ixora/ixora/web/Page" "model" "Ljava/util/Map;" mv) ∧ (Fld Z h a "com/example/ixora/ixora/web/Page" "location" "Ljava/lang/String;" lv)
set_option maxRecDepth 65536 in
set_option maxHeartbeats 40000000 in
theorem rm_pini (l : Launch) (Z : State) (a0 : Array Value) (hw : ∀ d ∈ tables_1, d.before a0 Z = true) (ws : List Jvm.Cond) (a : Addr) (sv : Int32) (tv : Value) (mv : Value) (lv : Value) (h0 : Heap) (n0 : Nat) (O0 : Old Z n0 h0) (EA : Exa Z h0 a "com/example/ixora/ixora/web/Page") (F1 : Fld Z h0 a "com/example/ixora/ixora/web/Page" "status" "I" (.int (0 : Int32))) (F2 : Fld Z h0 a "com/example/ixora/ixora/web/Page" "template" "Ljava/lang/String;" .null) (F3 : Fld Z h0 a "com/example/ixora/ixora/web/Page" "model" "Ljava/util/Map;" .null) (F4 : Fld Z h0 a "com/example/ixora/ixora/web/Page" "location" "Ljava/lang/String;" .null) (fa : n0 ≤ a) (it : tv.isRef = true) (im : mv.isRef = true) (il : lv.isRef = true) :
    MetFree l (⟨"com/example/ixora/ixora/web/Page", "<init>", "(ILjava/lang/String;Ljava/util/Map;Ljava/lang/String;)V"⟩ : MethodName) (head1 (Jvm.Cond.code (⟨"com/example/ixora/ixora/web/Page", "<init>", "(ILjava/lang/String;Ljava/util/Map;Ljava/lang/String;)V"⟩ : MethodName) prog_48_method_1_code 5 none :: ws) ({ frames := 2, cells := 0, slots := 0, locals := 24 } : Room)) (fun ar_ U => ar_ = #[(.ref a), (.int sv), tv, mv, lv] ∧ Z.Warmed39 U.vm ∧ U.heap = h0) (fun _ _ _ _ _ => True) (fun _ U o U' => ∃ v L, o = .returned v ∧ Q_pini Z a sv tv mv lv h0 n0 v U'.heap L ∧ FrameEnd U o U' L ({ frames := 2, cells := 0, slots := 0, locals := 24 } : Room).cells ({ frames := 2, cells := 0, slots := 0, locals := 24 } : Room).slots) := by
  refine MetFree.of_bodySF (plainFor_of_name pn_3) hisR ?_
  intro p e s m args below meth c s₁ Bd hml0 hP hK
  obtain ⟨rfl, hZ, hh⟩ := hP
  have hx := Bd.exec
  have hby := Bd.bytes
  have hml : c.maxLocals = 5 := hml0
  have hown : s.vm.findClass "com/example/ixora/ixora/web/Page" = some m.cls := findClass_of_methodNamed Bd.named
  have hnm := (name_of_methodNamed Bd.named Bd.method).1
  have X0 : Stand p l e ({ frames := 2, cells := 0, slots := 0, locals := 24 } : Room) s m #[(.ref a), (.int sv), tv, mv, lv] below meth c s₁ [] 0 0 := Stand.of_body Bd
  have e0 : s₁.heap = h0 := by rw [← hh, Bd.state]; rfl
  have N0 := Fr.nil n0
  have hret := Bd.returns
  have hlk : meth.locks = false := Bd.notSynchronized
  show own_E p e below s ({ frames := 2, cells := 0, slots := 0, locals := 24 } : Room).cells ({ frames := 2, cells := 0, slots := 0, locals := 24 } : Room).slots (Q_pini Z a sv tv mv lv h0 n0) s₁ (entryFrame m #[(.ref a), (.int sv), tv, mv, lv] 5)
  rw [ef_pini m a sv tv mv lv it im il]
  refine own_st (T' := s₁) (g' := (mkF m 1 #[.val (.ref a), .val (.int sv), .val tv, .val mv, .val lv] [(.ref a)])) (fun t_ k_ => XS.aloadN X0.here hx rfl (hb hby d9_0) rfl rfl  k_) ?_
  obtain ⟨_, _, ⟨T1, L1, k1, n1⟩, -, X1, ⟨Lc1, hQ1, l1, y1, z1⟩, st1⟩ := X0.specialBack hx (y := (⟨"java/lang/Record", "<init>", "()V"⟩ : MethodName)) rfl hown (mvT hZ (hw _ (List.mem_of_getElem? (i := 45) rfl))) (mvT hZ (hw _ (List.mem_of_getElem? (i := 46) rfl))) (mvT hZ (hw _ (List.mem_of_getElem? (i := 49) rfl))) (by decide) (backOf (W := 0) (rm_rec l Z a0 hw [] a h0 n0 O0) hZ (hw _ (List.mem_of_getElem? (i := 49) rfl)) (hw _ (List.mem_of_getElem? (i := 48) rfl)) (by decide) (by decide)) (g := (mkF m 1 #[.val (.ref a), .val (.int sv), .val tv, .val mv, .val lv] [(.ref a)])) rfl (by rw [hml]; rfl) (Steps.refl _) (a := a) (argsL := []) (rest := []) (lenOf pd___V rfl) rfl (by show 2 * 0 + _ ≤ _; exact Nat.le_of_eq rfl) (hb hby d9_1) (fun _ _ => ⟨rfl, e0, (by decide : 0 + 0 ≤ _), (by decide : 0 + 0 ≤ _)⟩)
  dsimp only [Pt.U, Pt.locs, Pt.cells, Pt.slots] at X1 l1 y1 z1 st1 hQ1
  subst l1 y1 z1
  obtain ⟨rfl, Nq1, eq1⟩ := hQ1
  have N1 := Fr.app N0 Nq1
  refine own_st (T' := T1) (g' := (mkF m 4 #[.val (.ref a), .val (.int sv), .val tv, .val mv, .val lv] [])) (fun t_ k_ => st1.trans k_) ?_
  refine own_st (T' := T1) (g' := (mkF m 5 #[.val (.ref a), .val (.int sv), .val tv, .val mv, .val lv] [(.ref a)])) (fun t_ k_ => XS.aloadN X1.here hx rfl (hb hby d9_4) rfl rfl  k_) ?_
  refine own_st (T' := T1) (g' := (mkF m 6 #[.val (.ref a), .val (.int sv), .val tv, .val mv, .val lv] [(.int sv), (.ref a)])) (fun t_ k_ => XS.iloadN X1.here hx rfl (hb hby d9_5) rfl  k_) ?_
  obtain ⟨T2, h2, X2, e2, W2, st2⟩ := putF X1 hx hZ hown (host := "") (Or.inl (hw _ (List.mem_of_getElem? (i := 51) rfl))) Via.refl eq1 F1 EA (Or.inr ⟨(hw _ (List.mem_of_getElem? (i := 52) rfl)), rfl, hnm⟩) (hw _ (List.mem_of_getElem? (i := 35) rfl)) (ty := .int) (by decide) rfl rfl (g := (mkF m 6 #[.val (.ref a), .val (.int sv), .val tv, .val mv, .val lv] [(.int sv), (.ref a)])) rfl rfl (hb hby d9_6)
  have Fw2 : Fld Z h2 a "com/example/ixora/ixora/web/Page" "status" "I" (.int sv) := Fld.same W2 F1
  have N2 := Fr.snoc X2 N1 fa
  refine own_st (T' := T2) (g' := (mkF m 9 #[.val (.ref a), .val (.int sv), .val tv, .val mv, .val lv] [])) st2 ?_
  refine own_st (T' := T2) (g' := (mkF m 10 #[.val (.ref a), .val (.int sv), .val tv, .val mv, .val lv] [(.ref a)])) (fun t_ k_ => XS.aloadN X2.here hx rfl (hb hby d9_9) rfl rfl  k_) ?_
  refine own_st (T' := T2) (g' := (mkF m 11 #[.val (.ref a), .val (.int sv), .val tv, .val mv, .val lv] [tv, (.ref a)])) (fun t_ k_ => XS.aloadN X2.here hx rfl (hb hby d9_10) rfl it  k_) ?_
  have f3 : Exa Z h2 a "com/example/ixora/ixora/web/Page" := EA.wr W2
  have f4 : Fld Z h2 a "com/example/ixora/ixora/web/Page" "template" "Ljava/lang/String;" .null := F2.other W2 (Or.inr (slot_ne (Or.inr (hw _ (List.mem_of_getElem? (i := 54) rfl))) (Or.inr (hw _ (List.mem_of_getElem? (i := 52) rfl))) (by decide) (t := (.object "java/lang/String")) (t' := .int) (by decide) (by decide)))
  obtain ⟨T5, h5, X5, e5, W5, st5⟩ := putF X2 hx hZ hown (host := "") (Or.inl (hw _ (List.mem_of_getElem? (i := 53) rfl))) Via.refl e2 f4 f3 (Or.inr ⟨(hw _ (List.mem_of_getElem? (i := 54) rfl)), rfl, hnm⟩) (hw _ (List.mem_of_getElem? (i := 35) rfl)) (ty := (.object "java/lang/String")) (by decide) (own_narR rfl) (own_fitR it rfl) (g := (mkF m 11 #[.val (.ref a), .val (.int sv), .val tv, .val mv, .val lv] [tv, (.ref a)])) rfl rfl (hb hby d9_11)
  have Fw5 : Fld Z h5 a "com/example/ixora/ixora/web/Page" "template" "Ljava/lang/String;" tv := Fld.same W5 f4
  have N5 := Fr.snoc X5 N2 fa
  refine own_st (T' := T5) (g' := (mkF m 14 #[.val (.ref a), .val (.int sv), .val tv, .val mv, .val lv] [])) st5 ?_
  refine own_st (T' := T5) (g' := (mkF m 15 #[.val (.ref a), .val (.int sv), .val tv, .val mv, .val lv] [(.ref a)])) (fun t_ k_ => XS.aloadN X5.here hx rfl (hb hby d9_14) rfl rfl  k_) ?_
  refine own_st (T' := T5) (g' := (mkF m 16 #[.val (.ref a), .val (.int sv), .val tv, .val mv, .val lv] [mv, (.ref a)])) (fun t_ k_ => XS.aloadN X5.here hx rfl (hb hby d9_15) rfl im  k_) ?_
  have f6 : Exa Z h5 a "com/example/ixora/ixora/web/Page" := f3.wr W5
  have f7 : Fld Z h2 a "com/example/ixora/ixora/web/Page" "model" "Ljava/util/Map;" .null := F3.other W2 (Or.inr (slot_ne (Or.inr (hw _ (List.mem_of_getElem? (i := 56) rfl))) (Or.inr (hw _ (List.mem_of_getElem? (i := 52) rfl))) (by decide) (t := (.object "java/util/Map")) (t' := .int) (by decide) (by decide)))
  have f8 : Fld Z h5 a "com/example/ixora/ixora/web/Page" "model" "Ljava/util/Map;" .null := f7.other W5 (Or.inr (slot_ne (Or.inr (hw _ (List.mem_of_getElem? (i := 56) rfl))) (Or.inr (hw _ (List.mem_of_getElem? (i := 54) rfl))) (by decide) (t := (.object "java/util/Map")) (t' := (.object "java/lang/String")) (by decide) (by decide)))
  obtain ⟨T9, h9, X9, e9, W9, st9⟩ := putF X5 hx hZ hown (host := "") (Or.inl (hw _ (List.mem_of_getElem? (i := 55) rfl))) Via.refl e5 f8 f6 (Or.inr ⟨(hw _ (List.mem_of_getElem? (i := 56) rfl)), rfl, hnm⟩) (hw _ (List.mem_of_getElem? (i := 35) rfl)) (ty := (.object "java/util/Map")) (by decide) (own_narR rfl) (own_fitR im rfl) (g := (mkF m 16 #[.val (.ref a), .val (.int sv), .val tv, .val mv, .val lv] [mv, (.ref a)])) rfl rfl (hb hby d9_16)
  have Fw9 : Fld Z h9 a "com/example/ixora/ixora/web/Page" "model" "Ljava/util/Map;" mv := Fld.same W9 f8
  have N9 := Fr.snoc X9 N5 fa
  refine own_st (T' := T9) (g' := (mkF m 19 #[.val (.ref a), .val (.int sv), .val tv, .val mv, .val lv] [])) st9 ?_
  refine own_st (T' := T9) (g' := (mkF m 20 #[.val (.ref a), .val (.int sv), .val tv, .val mv, .val lv] [(.ref a)])) (fun t_ k_ => XS.aloadN X9.here hx rfl (hb hby d9_19) rfl rfl  k_) ?_
  refine own_st (T' := T9) (g' := (mkF m 22 #[.val (.ref a), .val (.int sv), .val tv, .val mv, .val lv] [lv, (.ref a)])) (fun t_ k_ => XS.aload X9.here hx rfl (hb hby d9_20) rfl il  k_) ?_
  have f10 : Exa Z h9 a "com/example/ixora/ixora/web/Page" := f6.wr W9
  have f11 : Fld Z h2 a "com/example/ixora/ixora/web/Page" "location" "Ljava/lang/String;" .null := F4.other W2 (Or.inr (slot_ne (Or.inr (hw _ (List.mem_of_getElem? (i := 58) rfl))) (Or.inr (hw _ (List.mem_of_getElem? (i := 52) rfl))) (by decide) (t := (.object "java/lang/String")) (t' := .int) (by decide) (by decide)))
  have f12 : Fld Z h5 a "com/example/ixora/ixora/web/Page" "location" "Ljava/lang/String;" .null := f11.other W5 (Or.inr (slot_ne (Or.inr (hw _ (List.mem_of_getElem? (i := 58) rfl))) (Or.inr (hw _ (List.mem_of_getElem? (i := 54) rfl))) (by decide) (t := (.object "java/lang/String")) (t' := (.object "java/lang/String")) (by decide) (by decide)))
  have f13 : Fld Z h9 a "com/example/ixora/ixora/web/Page" "location" "Ljava/lang/String;" .null := f12.other W9 (Or.inr (slot_ne (Or.inr (hw _ (List.mem_of_getElem? (i := 58) rfl))) (Or.inr (hw _ (List.mem_of_getElem? (i := 56) rfl))) (by decide) (t := (.object "java/lang/String")) (t' := (.object "java/util/Map")) (by decide) (by decide)))
  obtain ⟨T14, h14, X14, e14, W14, st14⟩ := putF X9 hx hZ hown (host := "") (Or.inl (hw _ (List.mem_of_getElem? (i := 57) rfl))) Via.refl e9 f13 f10 (Or.inr ⟨(hw _ (List.mem_of_getElem? (i := 58) rfl)), rfl, hnm⟩) (hw _ (List.mem_of_getElem? (i := 35) rfl)) (ty := (.object "java/lang/String")) (by decide) (own_narR rfl) (own_fitR il rfl) (g := (mkF m 22 #[.val (.ref a), .val (.int sv), .val tv, .val mv, .val lv] [lv, (.ref a)])) rfl rfl (hb hby d9_22)
  have Fw14 : Fld Z h14 a "com/example/ixora/ixora/web/Page" "location" "Ljava/lang/String;" lv := Fld.same W14 f13
  have N14 := Fr.snoc X14 N9 fa
  refine own_st (T' := T14) (g' := (mkF m 25 #[.val (.ref a), .val (.int sv), .val tv, .val mv, .val lv] [])) st14 ?_
  have f15 : Keep h0 h2 [a] := (Keep.refl h0 [a]).wr W2 (Or.inl (List.mem_of_getElem? (i := 0) rfl))
  have f16 : Keep h0 h5 [a] := f15.wr W5 (Or.inl (List.mem_of_getElem? (i := 0) rfl))
  have f17 : Keep h0 h9 [a] := f16.wr W9 (Or.inl (List.mem_of_getElem? (i := 0) rfl))
  have f18 : Keep h0 h14 [a] := f17.wr W14 (Or.inl (List.mem_of_getElem? (i := 0) rfl))
  have f19 : Exa Z h14 a "com/example/ixora/ixora/web/Page" := f10.wr W14
  have f20 : Fld Z h5 a "com/example/ixora/ixora/web/Page" "status" "I" (.int sv) := Fw2.other W5 (Or.inr (slot_ne (Or.inr (hw _ (List.mem_of_getElem? (i := 52) rfl))) (Or.inr (hw _ (List.mem_of_getElem? (i := 54) rfl))) (by decide) (t := .int) (t' := (.object "java/lang/String")) (by decide) (by decide)))
  have f21 : Fld Z h9 a "com/example/ixora/ixora/web/Page" "status" "I" (.int sv) := f20.other W9 (Or.inr (slot_ne (Or.inr (hw _ (List.mem_of_getElem? (i := 52) rfl))) (Or.inr (hw _ (List.mem_of_getElem? (i := 56) rfl))) (by decide) (t := .int) (t' := (.object "java/util/Map")) (by decide) (by decide)))
  have f22 : Fld Z h14 a "com/example/ixora/ixora/web/Page" "status" "I" (.int sv) := f21.other W14 (Or.inr (slot_ne (Or.inr (hw _ (List.mem_of_getElem? (i := 52) rfl))) (Or.inr (hw _ (List.mem_of_getElem? (i := 58) rfl))) (by decide) (t := .int) (t' := (.object "java/lang/String")) (by decide) (by decide)))
  have f23 : Fld Z h9 a "com/example/ixora/ixora/web/Page" "template" "Ljava/lang/String;" tv := Fw5.other W9 (Or.inr (slot_ne (Or.inr (hw _ (List.mem_of_getElem? (i := 54) rfl))) (Or.inr (hw _ (List.mem_of_getElem? (i := 56) rfl))) (by decide) (t := (.object "java/lang/String")) (t' := (.object "java/util/Map")) (by decide) (by decide)))
  have f24 : Fld Z h14 a "com/example/ixora/ixora/web/Page" "template" "Ljava/lang/String;" tv := f23.other W14 (Or.inr (slot_ne (Or.inr (hw _ (List.mem_of_getElem? (i := 54) rfl))) (Or.inr (hw _ (List.mem_of_getElem? (i := 58) rfl))) (by decide) (t := (.object "java/lang/String")) (t' := (.object "java/lang/String")) (by decide) (by decide)))
  have f25 : Fld Z h14 a "com/example/ixora/ixora/web/Page" "model" "Ljava/util/Map;" mv := Fw9.other W14 (Or.inr (slot_ne (Or.inr (hw _ (List.mem_of_getElem? (i := 56) rfl))) (Or.inr (hw _ (List.mem_of_getElem? (i := 58) rfl))) (by decide) (t := (.object "java/util/Map")) (t' := (.object "java/lang/String")) (by decide) (by decide)))
  exact own_retV X14 hx hret hlk (hb hby d9_25) (by decide) (by decide) (by rw [e14]; exact ⟨rfl, N14, f18, f19, f22, f24, f25, Fw14⟩)
theorem d8_0 : decode jdk_72_method_26_code 0 = .ok (.getstatic 81, 3) := by decide +kernel
theorem d8_3 : decode jdk_72_method_26_code 3 = .ok (.areturn, 1) := by decide +kernel
theorem pn_4 : plainName "java/util/Map" = true := by first | (simp [plainName, overriddenIn]; done) | decide +kernel
theorem ef_mapof (m : MethodId)  : entryFrame m #[] 0 = mkF m 0 #[] [] := by first | (simp [entryFrame, mkF, argsToLocals, Value.category]; done) | rfl
def Q_mapof (Z : State) (wm : Addr) (h0 : Heap) (n0 : Nat) (v : Option Value) (h : Heap) (L : List Loc) : Prop := (v = some (.ref wm)) ∧ (Fr n0 L) ∧ (h = h0)
set_option maxRecDepth 65536 in
set_option maxHeartbeats 40000000 in
theorem rm_mapof (l : Launch) (Z : State) (a0 : Array Value) (hw : ∀ d ∈ tables_1, d.before a0 Z = true) (ws : List Jvm.Cond) (wm : Addr) (h0 : Heap) (n0 : Nat) (O0 : Old Z n0 h0) (SM : Sta Z Z.heap "java/util/ImmutableCollections" "EMPTY_MAP" "Ljava/util/ImmutableCollections$MapN;" (.ref wm)) :
    MetFree l (⟨"java/util/Map", "of", "()Ljava/util/Map;"⟩ : MethodName) (head1 (Jvm.Cond.code (⟨"java/util/Map", "of", "()Ljava/util/Map;"⟩ : MethodName) jdk_72_method_26_code 0 (some (.object "java/util/Map")) :: ws) ({ frames := 0, cells := 0, slots := 0, locals := 0 } : Room)) (fun ar_ U => ar_ = #[] ∧ Z.Warmed39 U.vm ∧ U.heap = h0) (fun _ _ _ _ _ => True) (fun _ U o U' => ∃ v L, o = .returned v ∧ Q_mapof Z wm h0 n0 v U'.heap L ∧ FrameEnd U o U' L ({ frames := 0, cells := 0, slots := 0, locals := 0 } : Room).cells ({ frames := 0, cells := 0, slots := 0, locals := 0 } : Room).slots) := by
  refine MetFree.of_bodySF (plainFor_of_name pn_4) hisR ?_
  intro p e s m args below meth c s₁ Bd hml0 hP hK
  obtain ⟨rfl, hZ, hh⟩ := hP
  have hx := Bd.exec
  have hby := Bd.bytes
  have hml : c.maxLocals = 0 := hml0
  have hown : s.vm.findClass "java/util/Map" = some m.cls := findClass_of_methodNamed Bd.named
  have hnm := (name_of_methodNamed Bd.named Bd.method).1
  have X0 : Stand p l e ({ frames := 0, cells := 0, slots := 0, locals := 0 } : Room) s m #[] below meth c s₁ [] 0 0 := Stand.of_body Bd
  have e0 : s₁.heap = h0 := by rw [← hh, Bd.state]; rfl
  have N0 := Fr.nil n0
  have hret := Bd.returns
  have hlk : meth.locks = false := Bd.notSynchronized
  show own_E p e below s ({ frames := 0, cells := 0, slots := 0, locals := 0 } : Room).cells ({ frames := 0, cells := 0, slots := 0, locals := 0 } : Room).slots (Q_mapof Z wm h0 n0) s₁ (entryFrame m #[] 0)
  rw [ef_mapof m ]
  obtain ⟨T1, X1, e1, st1⟩ := getS2 X0 hx hZ hown (host := "") (Or.inl (hw _ (List.mem_of_getElem? (i := 40) rfl))) Via.refl e0 (SM.ext O0.2) (g := (mkF m 0 #[] [])) rfl (hb hby d8_0)
  refine own_st (T' := T1) (g' := (mkF m 3 #[] [(.ref wm)])) st1 ?_
  exact own_retA X1 hx hret rfl rfl hlk (hb hby d8_3) (by decide) (by decide) ⟨rfl, N0, e1⟩
theorem d7_0 : decode prog_48_method_3_code 0 = .ok (.new 8, 3) := by decide +kernel
theorem d7_3 : decode prog_48_method_3_code 3 = .ok (.dup, 1) := by decide +kernel
theorem d7_4 : decode prog_48_method_3_code 4 = .ok (.sipush 303, 3) := by decide +kernel
theorem d7_7 : decode prog_48_method_3_code 7 = .ok (.aconst_null, 1) := by decide +kernel
theorem d7_8 : decode prog_48_method_3_code 8 = .ok (.invokestatic 27, 3) := by decide +kernel
theorem d7_11 : decode prog_48_method_3_code 11 = .ok (.aload_n 0, 1) := by decide +kernel
theorem d7_12 : decode prog_48_method_3_code 12 = .ok (.invokespecial 24, 3) := by decide +kernel
theorem d7_15 : decode prog_48_method_3_code 15 = .ok (.areturn, 1) := by decide +kernel
theorem pd___Ljava_util_Map_ : parseMethodDescriptor "()Ljava/util/Map;" = some ⟨[], some (.object "java/util/Map")⟩ := by decide +kernel
theorem pd__ILjava_lang_String_Ljava_util_Map_Ljava_lang_String__V : parseMethodDescriptor "(ILjava/lang/String;Ljava/util/Map;Ljava/lang/String;)V" = some ⟨[.int, (.object "java/lang/String"), (.object "java/util/Map"), (.object "java/lang/String")], none⟩ := by decide +kernel
theorem ef_see (m : MethodId) (x0 : Value) (hx0 : x0.isRef = true) : entryFrame m #[x0] 1 = mkF m 0 #[.val x0] [] := by
  rcases ref_cases hx0 with rfl | ⟨_, rfl⟩ <;> (first | (simp [entryFrame, mkF, argsToLocals, Value.category]; done) | rfl)
def Q_see (Z : State) (lv : Value) (wm : Addr) (h0 : Heap) (n0 : Nat) (v : Option Value) (h : Heap) (L : List Loc) : Prop := ∃ (b : Addr), (v = some (.ref b)) ∧ (Fr n0 L) ∧ (Keep h0 h []) ∧ (Exa Z h b "com/example/ixora/ixora/web/Page") ∧ (Fld Z h b "com/example/ixora/ixora/web/Page" "status" "I" (.int (303 : Int32))) ∧ (Fld Z h b "com/example/ixora/ixora/web/Page" "template" "Ljava/lang/String;" .null) ∧ (Fld Z h b "com/example/ixora/ixora/web/Page" "model" "Ljava/util/Map;" (.ref wm)) ∧ (Fld Z h b "com/example/ixora/ixora/web/Page" "location" "Ljava/lang/String;" lv) ∧ (h0.size ≤ b)
set_option maxRecDepth 65536 in
set_option maxHeartbeats 40000000 in
theorem rm_see (l : Launch) (Z : State) (a0 : Array Value) (hw : ∀ d ∈ tables_1, d.before a0 Z = true) (ws : List Jvm.Cond) (lv : Value) (wm : Addr) (h0 : Heap) (n0 : Nat) (O0 : Old Z n0 h0) (SM : Sta Z Z.heap "java/util/ImmutableCollections" "EMPTY_MAP" "Ljava/util/ImmutableCollections$MapN;" (.ref wm)) (il : lv.isRef = true) :
    MetFree l (⟨"com/example/ixora/ixora/web/Page", "seeOther", "(Ljava/lang/String;)Lcom/example/ixora/ixora/web/Page;"⟩ : MethodName) (head1 (Jvm.Cond.code (⟨"com/example/ixora/ixora/web/Page", "seeOther", "(Ljava/lang/String;)Lcom/example/ixora/ixora/web/Page;"⟩ : MethodName) prog_48_method_3_code 1 (some (.object "com/example/ixora/ixora/web/Page")) :: ws) ({ frames := 3, cells := 1, slots := 4, locals := 41 } : Room)) (fun ar_ U => ar_ = #[lv] ∧ Z.Warmed39 U.vm ∧ U.heap = h0) (fun _ _ _ _ _ => True) (fun _ U o U' => ∃ v L, o = .returned v ∧ Q_see Z lv wm h0 n0 v U'.heap L ∧ FrameEnd U o U' L ({ frames := 3, cells := 1, slots := 4, locals := 41 } : Room).cells ({ frames := 3, cells := 1, slots := 4, locals := 41 } : Room).slots) := by
  refine MetFree.of_bodySF (plainFor_of_name pn_3) hisR ?_
  intro p e s m args below meth c s₁ Bd hml0 hP hK
  obtain ⟨rfl, hZ, hh⟩ := hP
  have hx := Bd.exec
  have hby := Bd.bytes
  have hml : c.maxLocals = 1 := hml0
  have hown : s.vm.findClass "com/example/ixora/ixora/web/Page" = some m.cls := findClass_of_methodNamed Bd.named
  have hnm := (name_of_methodNamed Bd.named Bd.method).1
  have X0 : Stand p l e ({ frames := 3, cells := 1, slots := 4, locals := 41 } : Room) s m #[lv] below meth c s₁ [] 0 0 := Stand.of_body Bd
  have e0 : s₁.heap = h0 := by rw [← hh, Bd.state]; rfl
  have N0 := Fr.nil n0
  have hret := Bd.returns
  have hlk : meth.locks = false := Bd.notSynchronized
  show own_E p e below s ({ frames := 3, cells := 1, slots := 4, locals := 41 } : Room).cells ({ frames := 3, cells := 1, slots := 4, locals := 41 } : Room).slots (Q_see Z lv wm h0 n0) s₁ (entryFrame m #[lv] 1)
  rw [ef_see m lv il]
  obtain ⟨T1, h1, X1, e1, E1, A1, D1, -, st1⟩ := newO X0 hx hZ hown (hw _ (List.mem_of_getElem? (i := 34) rfl)) (hw _ (List.mem_of_getElem? (i := 35) rfl)) (hw _ (List.mem_of_getElem? (i := 32) rfl)) e0 (g := (mkF m 0 #[.val lv] [])) rfl (hb hby d7_0) (by decide) (by decide)
  obtain ⟨b1, g1⟩ : ∃ z, z = h0.size := ⟨_, rfl⟩
  rw [← g1] at A1 D1 st1
  have fr1 : n0 ≤ b1 := Nat.le_trans (own_z O0) (Nat.le_of_eq g1.symm)
  have sz1 : h0.size ≤ b1 := Nat.le_trans (Keep.refl h0 []).1 (Nat.le_of_eq g1.symm)
  have F1_status : Fld Z h1 b1 "com/example/ixora/ixora/web/Page" "status" "I" (.int (0 : Int32)) := D1 (Or.inr (hw _ (List.mem_of_getElem? (i := 52) rfl))) (ty := .int) (by decide)
  have F1_template : Fld Z h1 b1 "com/example/ixora/ixora/web/Page" "template" "Ljava/lang/String;" .null := D1 (Or.inr (hw _ (List.mem_of_getElem? (i := 54) rfl))) (ty := (.object "java/lang/String")) (by decide)
  have F1_model : Fld Z h1 b1 "com/example/ixora/ixora/web/Page" "model" "Ljava/util/Map;" .null := D1 (Or.inr (hw _ (List.mem_of_getElem? (i := 56) rfl))) (ty := (.object "java/util/Map")) (by decide)
  have F1_location : Fld Z h1 b1 "com/example/ixora/ixora/web/Page" "location" "Ljava/lang/String;" .null := D1 (Or.inr (hw _ (List.mem_of_getElem? (i := 58) rfl))) (ty := (.object "java/lang/String")) (by decide)
  refine own_st (T' := T1) (g' := (mkF m 3 #[.val lv] [(.ref b1)])) st1 ?_
  refine own_st (T' := T1) (g' := (mkF m 4 #[.val lv] [(.ref b1), (.ref b1)])) (fun t_ k_ => XS.dup X1.here hx rfl (hb hby d7_3) rfl rfl k_) ?_
  refine own_st (T' := T1) (g' := (mkF m 7 #[.val lv] [(.int (303 : Int32)), (.ref b1), (.ref b1)])) (fun t_ k_ => XS.sipush X1.here hx rfl (hb hby d7_4) k_) ?_
  refine own_st (T' := T1) (g' := (mkF m 8 #[.val lv] [.null, (.int (303 : Int32)), (.ref b1), (.ref b1)])) (fun t_ k_ => XS.aconstNull X1.here hx rfl (hb hby d7_7) k_) ?_
  have f2 : Old Z n0 h1 := O0.ext E1
  obtain ⟨_, _, ⟨T3, L3, k3, n3⟩, -, X3, ⟨Lc3, hQ3, l3, y3, z3⟩, st3⟩ := Jvm.LawKit.callS X1 hx (y := (⟨"java/util/Map", "of", "()Ljava/util/Map;"⟩ : MethodName)) hown (mvT hZ (hw _ (List.mem_of_getElem? (i := 36) rfl))) (mvT hZ (hw _ (List.mem_of_getElem? (i := 37) rfl))) (mvT hZ (hw _ (List.mem_of_getElem? (i := 38) rfl))) (mvT hZ (hw _ (List.mem_of_getElem? (i := 39) rfl))) (by decide) (backOf (W := 4) (rm_mapof l Z a0 hw [] wm h1 n0 f2 SM) hZ (hw _ (List.mem_of_getElem? (i := 39) rfl)) (hw _ (List.mem_of_getElem? (i := 38) rfl)) (by decide) (by decide)) (g := (mkF m 8 #[.val lv] [.null, (.int (303 : Int32)), (.ref b1), (.ref b1)])) rfl (by rw [hml]; rfl) (argsL := []) (rest := [.null, (.int (303 : Int32)), (.ref b1), (.ref b1)]) (lenOf pd___Ljava_util_Map_ rfl) rfl (by show 2 * 0 + _ ≤ _; exact Nat.le_of_eq rfl) (hb hby d7_8) (fun _ _ => ⟨rfl, e1, (by decide : 1 + 0 ≤ _), (by decide : 4 + 0 ≤ _)⟩)
  dsimp only [Pt.U, Pt.locs, Pt.cells, Pt.slots] at X3 l3 y3 z3 st3 hQ3
  subst l3 y3 z3
  obtain ⟨rfl, Nq3, eq3⟩ := hQ3
  have N3 := Fr.app N0 Nq3
  refine own_st (T' := T3) (g' := (mkF m 11 #[.val lv] [(.ref wm), .null, (.int (303 : Int32)), (.ref b1), (.ref b1)])) st3 ?_
  refine own_st (T' := T3) (g' := (mkF m 12 #[.val lv] [lv, (.ref wm), .null, (.int (303 : Int32)), (.ref b1), (.ref b1)])) (fun t_ k_ => XS.aloadN X3.here hx rfl (hb hby d7_11) rfl il  k_) ?_
  obtain ⟨_, _, ⟨T4, L4, k4, n4⟩, -, X4, ⟨Lc4, hQ4, l4, y4, z4⟩, st4⟩ := X3.specialBack hx (y := (⟨"com/example/ixora/ixora/web/Page", "<init>", "(ILjava/lang/String;Ljava/util/Map;Ljava/lang/String;)V"⟩ : MethodName)) rfl hown (mvT hZ (hw _ (List.mem_of_getElem? (i := 42) rfl))) (mvT hZ (hw _ (List.mem_of_getElem? (i := 43) rfl))) (mvT hZ (hw _ (List.mem_of_getElem? (i := 44) rfl))) (by decide) (backOf (W := 1) (rm_pini l Z a0 hw [] b1 (303 : Int32) .null (.ref wm) lv h1 n0 f2 A1 F1_status F1_template F1_model F1_location fr1 rfl rfl il) hZ (hw _ (List.mem_of_getElem? (i := 44) rfl)) (hw _ (List.mem_of_getElem? (i := 32) rfl)) (by decide) (by decide)) (g := (mkF m 12 #[.val lv] [lv, (.ref wm), .null, (.int (303 : Int32)), (.ref b1), (.ref b1)])) rfl (by rw [hml]; rfl) (Steps.refl _) (a := b1) (argsL := [(.int (303 : Int32)), .null, (.ref wm), lv]) (rest := [(.ref b1)]) (lenOf pd__ILjava_lang_String_Ljava_util_Map_Ljava_lang_String__V rfl) rfl (by show 2 * 0 + _ ≤ _; exact Nat.le_of_eq rfl) (hb hby d7_12) (fun _ _ => ⟨rfl, eq3, (by decide : 1 + 0 ≤ _), (by decide : 4 + 0 ≤ _)⟩)
  dsimp only [Pt.U, Pt.locs, Pt.cells, Pt.slots] at X4 l4 y4 z4 st4 hQ4
  subst l4 y4 z4
  obtain ⟨rfl, Nq4, K4, fq4_0, fq4_1, fq4_2, fq4_3, fq4_4⟩ := hQ4
  have N4 := Fr.app N3 Nq4
  refine own_st (T' := T4) (g' := (mkF m 15 #[.val lv] [(.ref b1)])) (fun t_ k_ => st4.trans k_) ?_
  have f5 : Keep h0 h1 [] := (Keep.refl h0 []).ext E1
  have f6 : Keep h0 T4.heap [] := f5.trans K4 (allS (Or.inr sz1) all0)
  exact own_retA X4 hx hret rfl rfl hlk (hb hby d7_15) (by decide) (by decide) ⟨b1, rfl, N4, f6, fq4_0, fq4_1, fq4_2, fq4_3, fq4_4, sz1⟩
theorem d12_0 : decode prog_48_method_4_code 0 = .ok (.new 8, 3) := by decide +kernel
theorem d12_3 : decode prog_48_method_4_code 3 = .ok (.dup, 1) := by decide +kernel
theorem d12_4 : decode prog_48_method_4_code 4 = .ok (.iload_n 1, 1) := by decide +kernel
theorem d12_5 : decode prog_48_method_4_code 5 = .ok (.aload_n 0, 1) := by decide +kernel
theorem d12_6 : decode prog_48_method_4_code 6 = .ok (.getfield 13, 3) := by decide +kernel
theorem d12_9 : decode prog_48_method_4_code 9 = .ok (.aload_n 0, 1) := by decide +kernel
theorem d12_10 : decode prog_48_method_4_code 10 = .ok (.getfield 17, 3) := by decide +kernel
theorem d12_13 : decode prog_48_method_4_code 13 = .ok (.aload_n 0, 1) := by decide +kernel
theorem d12_14 : decode prog_48_method_4_code 14 = .ok (.getfield 21, 3) := by decide +kernel
theorem d12_17 : decode prog_48_method_4_code 17 = .ok (.invokespecial 24, 3) := by decide +kernel
theorem d12_20 : decode prog_48_method_4_code 20 = .ok (.areturn, 1) := by decide +kernel
theorem ef_wst (m : MethodId) (x0 : Addr) (x1 : Int32) : entryFrame m #[(.ref x0), (.int x1)] 2 = mkF m 0 #[.val (.ref x0), .val (.int x1)] [] := by first | (simp [entryFrame, mkF, argsToLocals, Value.category]; done) | rfl
def Q_wst (Z : State) (a : Addr) (nv : Int32) (tv : Value) (mv : Value) (lv : Value) (h0 : Heap) (n0 : Nat) (v : Option Value) (h : Heap) (L : List Loc) : Prop := ∃ (b : Addr), (v = some (.ref b)) ∧ (Fr n0 L) ∧ (Keep h0 h []) ∧ (Exa Z h b "com/example/ixora/ixora/web/Page") ∧ (Fld Z h b "com/example/ixora/ixora/web/Page" "status" "I" (.int nv)) ∧ (Fld Z h b "com/example/ixora/ixora/web/Page" "template" "Ljava/lang/String;" tv) ∧ (Fld Z h b "com/example/ixora/ixora/web/Page" "model" "Ljava/util/Map;" mv) ∧ (Fld Z h b "com/example/ixora/ixora/web/Page" "location" "Ljava/lang/String;" lv) ∧ (h0.size ≤ b)
set_option maxRecDepth 65536 in
set_option maxHeartbeats 40000000 in
theorem rm_wst (l : Launch) (Z : State) (a0 : Array Value) (hw : ∀ d ∈ tables_1, d.before a0 Z = true) (ws : List Jvm.Cond) (a : Addr) (nv : Int32) (tv : Value) (mv : Value) (lv : Value) (h0 : Heap) (n0 : Nat) (O0 : Old Z n0 h0) (F2 : Fld Z h0 a "com/example/ixora/ixora/web/Page" "template" "Ljava/lang/String;" tv) (F3 : Fld Z h0 a "com/example/ixora/ixora/web/Page" "model" "Ljava/util/Map;" mv) (F4 : Fld Z h0 a "com/example/ixora/ixora/web/Page" "location" "Ljava/lang/String;" lv) (it : tv.isRef = true) (im : mv.isRef = true) (il : lv.isRef = true) :
    MetFree l (⟨"com/example/ixora/ixora/web/Page", "withStatus", "(I)Lcom/example/ixora/ixora/web/Page;"⟩ : MethodName) (head1 (Jvm.Cond.code (⟨"com/example/ixora/ixora/web/Page", "withStatus", "(I)Lcom/example/ixora/ixora/web/Page;"⟩ : MethodName) prog_48_method_4_code 2 (some (.object "com/example/ixora/ixora/web/Page")) :: ws) ({ frames := 3, cells := 1, slots := 4, locals := 41 } : Room)) (fun ar_ U => ar_ = #[(.ref a), (.int nv)] ∧ Z.Warmed39 U.vm ∧ U.heap = h0) (fun _ _ _ _ _ => True) (fun _ U o U' => ∃ v L, o = .returned v ∧ Q_wst Z a nv tv mv lv h0 n0 v U'.heap L ∧ FrameEnd U o U' L ({ frames := 3, cells := 1, slots := 4, locals := 41 } : Room).cells ({ frames := 3, cells := 1, slots := 4, locals := 41 } : Room).slots) := by
  refine MetFree.of_bodySF (plainFor_of_name pn_3) hisR ?_
  intro p e s m args below meth c s₁ Bd hml0 hP hK
  obtain ⟨rfl, hZ, hh⟩ := hP
  have hx := Bd.exec
  have hby := Bd.bytes
  have hml : c.maxLocals = 2 := hml0
  have hown : s.vm.findClass "com/example/ixora/ixora/web/Page" = some m.cls := findClass_of_methodNamed Bd.named
  have hnm := (name_of_methodNamed Bd.named Bd.method).1
  have X0 : Stand p l e ({ frames := 3, cells := 1, slots := 4, locals := 41 } : Room) s m #[(.ref a), (.int nv)] below meth c s₁ [] 0 0 := Stand.of_body Bd
  have e0 : s₁.heap = h0 := by rw [← hh, Bd.state]; rfl
  have N0 := Fr.nil n0
  have hret := Bd.returns
  have hlk : meth.locks = false := Bd.notSynchronized
  show own_E p e below s ({ frames := 3, cells := 1, slots := 4, locals := 41 } : Room).cells ({ frames := 3, cells := 1, slots := 4, locals := 41 } : Room).slots (Q_wst Z a nv tv mv lv h0 n0) s₁ (entryFrame m #[(.ref a), (.int nv)] 2)
  rw [ef_wst m a nv]
  obtain ⟨T1, h1, X1, e1, E1, A1, D1, -, st1⟩ := newO X0 hx hZ hown (hw _ (List.mem_of_getElem? (i := 34) rfl)) (hw _ (List.mem_of_getElem? (i := 35) rfl)) (hw _ (List.mem_of_getElem? (i := 32) rfl)) e0 (g := (mkF m 0 #[.val (.ref a), .val (.int nv)] [])) rfl (hb hby d12_0) (by decide) (by decide)
  obtain ⟨b1, g1⟩ : ∃ z, z = h0.size := ⟨_, rfl⟩
  rw [← g1] at A1 D1 st1
  have fr1 : n0 ≤ b1 := Nat.le_trans (own_z O0) (Nat.le_of_eq g1.symm)
  have sz1 : h0.size ≤ b1 := Nat.le_trans (Keep.refl h0 []).1 (Nat.le_of_eq g1.symm)
  have F1_status : Fld Z h1 b1 "com/example/ixora/ixora/web/Page" "status" "I" (.int (0 : Int32)) := D1 (Or.inr (hw _ (List.mem_of_getElem? (i := 52) rfl))) (ty := .int) (by decide)
  have F1_template : Fld Z h1 b1 "com/example/ixora/ixora/web/Page" "template" "Ljava/lang/String;" .null := D1 (Or.inr (hw _ (List.mem_of_getElem? (i := 54) rfl))) (ty := (.object "java/lang/String")) (by decide)
  have F1_model : Fld Z h1 b1 "com/example/ixora/ixora/web/Page" "model" "Ljava/util/Map;" .null := D1 (Or.inr (hw _ (List.mem_of_getElem? (i := 56) rfl))) (ty := (.object "java/util/Map")) (by decide)
  have F1_location : Fld Z h1 b1 "com/example/ixora/ixora/web/Page" "location" "Ljava/lang/String;" .null := D1 (Or.inr (hw _ (List.mem_of_getElem? (i := 58) rfl))) (ty := (.object "java/lang/String")) (by decide)
  refine own_st (T' := T1) (g' := (mkF m 3 #[.val (.ref a), .val (.int nv)] [(.ref b1)])) st1 ?_
  refine own_st (T' := T1) (g' := (mkF m 4 #[.val (.ref a), .val (.int nv)] [(.ref b1), (.ref b1)])) (fun t_ k_ => XS.dup X1.here hx rfl (hb hby d12_3) rfl rfl k_) ?_
  refine own_st (T' := T1) (g' := (mkF m 5 #[.val (.ref a), .val (.int nv)] [(.int nv), (.ref b1), (.ref b1)])) (fun t_ k_ => XS.iloadN X1.here hx rfl (hb hby d12_4) rfl  k_) ?_
  refine own_st (T' := T1) (g' := (mkF m 6 #[.val (.ref a), .val (.int nv)] [(.ref a), (.int nv), (.ref b1), (.ref b1)])) (fun t_ k_ => XS.aloadN X1.here hx rfl (hb hby d12_5) rfl rfl  k_) ?_
  have f2 : Fld Z h1 a "com/example/ixora/ixora/web/Page" "template" "Ljava/lang/String;" tv := F2.ext E1
  obtain ⟨T3, X3, e3, st3⟩ := getF X1 hx hZ hown (host := "") (Or.inl (hw _ (List.mem_of_getElem? (i := 53) rfl))) Via.refl e1 f2 (g := (mkF m 6 #[.val (.ref a), .val (.int nv)] [(.ref a), (.int nv), (.ref b1), (.ref b1)])) rfl rfl (hb hby d12_6)
  refine own_st (T' := T3) (g' := (mkF m 9 #[.val (.ref a), .val (.int nv)] [tv, (.int nv), (.ref b1), (.ref b1)])) st3 ?_
  refine own_st (T' := T3) (g' := (mkF m 10 #[.val (.ref a), .val (.int nv)] [(.ref a), tv, (.int nv), (.ref b1), (.ref b1)])) (fun t_ k_ => XS.aloadN X3.here hx rfl (hb hby d12_9) rfl rfl  k_) ?_
  have f4 : Fld Z h1 a "com/example/ixora/ixora/web/Page" "model" "Ljava/util/Map;" mv := F3.ext E1
  obtain ⟨T5, X5, e5, st5⟩ := getF X3 hx hZ hown (host := "") (Or.inl (hw _ (List.mem_of_getElem? (i := 55) rfl))) Via.refl e3 f4 (g := (mkF m 10 #[.val (.ref a), .val (.int nv)] [(.ref a), tv, (.int nv), (.ref b1), (.ref b1)])) rfl rfl (hb hby d12_10)
  refine own_st (T' := T5) (g' := (mkF m 13 #[.val (.ref a), .val (.int nv)] [mv, tv, (.int nv), (.ref b1), (.ref b1)])) st5 ?_
  refine own_st (T' := T5) (g' := (mkF m 14 #[.val (.ref a), .val (.int nv)] [(.ref a), mv, tv, (.int nv), (.ref b1), (.ref b1)])) (fun t_ k_ => XS.aloadN X5.here hx rfl (hb hby d12_13) rfl rfl  k_) ?_
  have f6 : Fld Z h1 a "com/example/ixora/ixora/web/Page" "location" "Ljava/lang/String;" lv := F4.ext E1
  obtain ⟨T7, X7, e7, st7⟩ := getF X5 hx hZ hown (host := "") (Or.inl (hw _ (List.mem_of_getElem? (i := 57) rfl))) Via.refl e5 f6 (g := (mkF m 14 #[.val (.ref a), .val (.int nv)] [(.ref a), mv, tv, (.int nv), (.ref b1), (.ref b1)])) rfl rfl (hb hby d12_14)
  refine own_st (T' := T7) (g' := (mkF m 17 #[.val (.ref a), .val (.int nv)] [lv, mv, tv, (.int nv), (.ref b1), (.ref b1)])) st7 ?_
  have f8 : Old Z n0 h1 := O0.ext E1
  obtain ⟨_, _, ⟨T9, L9, k9, n9⟩, -, X9, ⟨Lc9, hQ9, l9, y9, z9⟩, st9⟩ := X7.specialBack hx (y := (⟨"com/example/ixora/ixora/web/Page", "<init>", "(ILjava/lang/String;Ljava/util/Map;Ljava/lang/String;)V"⟩ : MethodName)) rfl hown (mvT hZ (hw _ (List.mem_of_getElem? (i := 42) rfl))) (mvT hZ (hw _ (List.mem_of_getElem? (i := 43) rfl))) (mvT hZ (hw _ (List.mem_of_getElem? (i := 44) rfl))) (by decide) (backOf (W := 1) (rm_pini l Z a0 hw [] b1 nv tv mv lv h1 n0 f8 A1 F1_status F1_template F1_model F1_location fr1 it im il) hZ (hw _ (List.mem_of_getElem? (i := 44) rfl)) (hw _ (List.mem_of_getElem? (i := 32) rfl)) (by decide) (by decide)) (g := (mkF m 17 #[.val (.ref a), .val (.int nv)] [lv, mv, tv, (.int nv), (.ref b1), (.ref b1)])) rfl (by rw [hml]; rfl) (Steps.refl _) (a := b1) (argsL := [(.int nv), tv, mv, lv]) (rest := [(.ref b1)]) (lenOf pd__ILjava_lang_String_Ljava_util_Map_Ljava_lang_String__V rfl) rfl (by show 2 * 0 + _ ≤ _; exact Nat.le_of_eq rfl) (hb hby d12_17) (fun _ _ => ⟨rfl, e7, (by decide : 1 + 0 ≤ _), (by decide : 4 + 0 ≤ _)⟩)
  dsimp only [Pt.U, Pt.locs, Pt.cells, Pt.slots] at X9 l9 y9 z9 st9 hQ9
  subst l9 y9 z9
  obtain ⟨rfl, Nq9, K9, fq9_0, fq9_1, fq9_2, fq9_3, fq9_4⟩ := hQ9
  have N9 := Fr.app N0 Nq9
  refine own_st (T' := T9) (g' := (mkF m 20 #[.val (.ref a), .val (.int nv)] [(.ref b1)])) (fun t_ k_ => st9.trans k_) ?_
  have f10 : Keep h0 h1 [] := (Keep.refl h0 []).ext E1
  have f11 : Keep h0 T9.heap [] := f10.trans K9 (allS (Or.inr sz1) all0)
  exact own_retA X9 hx hret rfl rfl hlk (hb hby d12_20) (by decide) (by decide) ⟨b1, rfl, N9, f11, fq9_0, fq9_1, fq9_2, fq9_3, fq9_4, sz1⟩
theorem d13_0 : decode prog_48_method_9_code 0 = .ok (.aload_n 0, 1) := by decide +kernel
theorem d13_1 : decode prog_48_method_9_code 1 = .ok (.getfield 7, 3) := by decide +kernel
theorem d13_4 : decode prog_48_method_9_code 4 = .ok (.ireturn, 1) := by decide +kernel
theorem ef_g_status (m : MethodId) (x0 : Addr) : entryFrame m #[(.ref x0)] 1 = mkF m 0 #[.val (.ref x0)] [] := by first | (simp [entryFrame, mkF, argsToLocals, Value.category]; done) | rfl
def Q_g_status (Z : State) (a : Addr) (sv : Int32) (h0 : Heap) (n0 : Nat) (v : Option Value) (h : Heap) (L : List Loc) : Prop := (v = some (.int sv)) ∧ (Fr n0 L) ∧ (h = h0)
set_option maxRecDepth 65536 in
set_option maxHeartbeats 40000000 in
theorem rm_g_status (l : Launch) (Z : State) (a0 : Array Value) (hw : ∀ d ∈ tables_1, d.before a0 Z = true) (ws : List Jvm.Cond) (a : Addr) (sv : Int32) (h0 : Heap) (n0 : Nat) (O0 : Old Z n0 h0) (F1 : Fld Z h0 a "com/example/ixora/ixora/web/Page" "status" "I" (.int sv)) :
    MetFree l (⟨"com/example/ixora/ixora/web/Page", "status", "()I"⟩ : MethodName) (head1 (Jvm.Cond.code (⟨"com/example/ixora/ixora/web/Page", "status", "()I"⟩ : MethodName) prog_48_method_9_code 1 (some .int) :: ws) ({ frames := 0, cells := 0, slots := 0, locals := 0 } : Room)) (fun ar_ U => ar_ = #[(.ref a)] ∧ Z.Warmed39 U.vm ∧ U.heap = h0) (fun _ _ _ _ _ => True) (fun _ U o U' => ∃ v L, o = .returned v ∧ Q_g_status Z a sv h0 n0 v U'.heap L ∧ FrameEnd U o U' L ({ frames := 0, cells := 0, slots := 0, locals := 0 } : Room).cells ({ frames := 0, cells := 0, slots := 0, locals := 0 } : Room).slots) := by
  refine MetFree.of_bodySF (plainFor_of_name pn_3) hisR ?_
  intro p e s m args below meth c s₁ Bd hml0 hP hK
  obtain ⟨rfl, hZ, hh⟩ := hP
  have hx := Bd.exec
  have hby := Bd.bytes
  have hml : c.maxLocals = 1 := hml0
  have hown : s.vm.findClass "com/example/ixora/ixora/web/Page" = some m.cls := findClass_of_methodNamed Bd.named
  have hnm := (name_of_methodNamed Bd.named Bd.method).1
  have X0 : Stand p l e ({ frames := 0, cells := 0, slots := 0, locals := 0 } : Room) s m #[(.ref a)] below meth c s₁ [] 0 0 := Stand.of_body Bd
  have e0 : s₁.heap = h0 := by rw [← hh, Bd.state]; rfl
  have N0 := Fr.nil n0
  have hret := Bd.returns
  have hlk : meth.locks = false := Bd.notSynchronized
  show own_E p e below s ({ frames := 0, cells := 0, slots := 0, locals := 0 } : Room).cells ({ frames := 0, cells := 0, slots := 0, locals := 0 } : Room).slots (Q_g_status Z a sv h0 n0) s₁ (entryFrame m #[(.ref a)] 1)
  rw [ef_g_status m a]
  refine own_st (T' := s₁) (g' := (mkF m 1 #[.val (.ref a)] [(.ref a)])) (fun t_ k_ => XS.aloadN X0.here hx rfl (hb hby d13_0) rfl rfl  k_) ?_
  obtain ⟨T1, X1, e1, st1⟩ := getF X0 hx hZ hown (host := "") (Or.inl (hw _ (List.mem_of_getElem? (i := 51) rfl))) Via.refl e0 F1 (g := (mkF m 1 #[.val (.ref a)] [(.ref a)])) rfl rfl (hb hby d13_1)
  refine own_st (T' := T1) (g' := (mkF m 4 #[.val (.ref a)] [(.int sv)])) st1 ?_
  exact own_retI X1 hx hret hlk (hb hby d13_4) (by decide) (by decide) ⟨rfl, N0, e1⟩
theorem d14_0 : decode prog_48_method_10_code 0 = .ok (.aload_n 0, 1) := by decide +kernel
theorem d14_1 : decode prog_48_method_10_code 1 = .ok (.getfield 13, 3) := by decide +kernel
theorem d14_4 : decode prog_48_method_10_code 4 = .ok (.areturn, 1) := by decide +kernel
theorem ef_g_template (m : MethodId) (x0 : Addr) : entryFrame m #[(.ref x0)] 1 = mkF m 0 #[.val (.ref x0)] [] := by first | (simp [entryFrame, mkF, argsToLocals, Value.category]; done) | rfl
def Q_g_template (Z : State) (a : Addr) (tv : Value) (h0 : Heap) (n0 : Nat) (v : Option Value) (h : Heap) (L : List Loc) : Prop := (v = some tv) ∧ (Fr n0 L) ∧ (h = h0)
set_option maxRecDepth 65536 in
set_option maxHeartbeats 40000000 in
theorem rm_g_template (l : Launch) (Z : State) (a0 : Array Value) (hw : ∀ d ∈ tables_1, d.before a0 Z = true) (ws : List Jvm.Cond) (a : Addr) (tv : Value) (h0 : Heap) (n0 : Nat) (O0 : Old Z n0 h0) (F1 : Fld Z h0 a "com/example/ixora/ixora/web/Page" "template" "Ljava/lang/String;" tv) (it : tv.isRef = true) :
    MetFree l (⟨"com/example/ixora/ixora/web/Page", "template", "()Ljava/lang/String;"⟩ : MethodName) (head1 (Jvm.Cond.code (⟨"com/example/ixora/ixora/web/Page", "template", "()Ljava/lang/String;"⟩ : MethodName) prog_48_method_10_code 1 (some (.object "java/lang/String")) :: ws) ({ frames := 0, cells := 0, slots := 0, locals := 0 } : Room)) (fun ar_ U => ar_ = #[(.ref a)] ∧ Z.Warmed39 U.vm ∧ U.heap = h0) (fun _ _ _ _ _ => True) (fun _ U o U' => ∃ v L, o = .returned v ∧ Q_g_template Z a tv h0 n0 v U'.heap L ∧ FrameEnd U o U' L ({ frames := 0, cells := 0, slots := 0, locals := 0 } : Room).cells ({ frames := 0, cells := 0, slots := 0, locals := 0 } : Room).slots) := by
  refine MetFree.of_bodySF (plainFor_of_name pn_3) hisR ?_
  intro p e s m args below meth c s₁ Bd hml0 hP hK
  obtain ⟨rfl, hZ, hh⟩ := hP
  have hx := Bd.exec
  have hby := Bd.bytes
  have hml : c.maxLocals = 1 := hml0
  have hown : s.vm.findClass "com/example/ixora/ixora/web/Page" = some m.cls := findClass_of_methodNamed Bd.named
  have hnm := (name_of_methodNamed Bd.named Bd.method).1
  have X0 : Stand p l e ({ frames := 0, cells := 0, slots := 0, locals := 0 } : Room) s m #[(.ref a)] below meth c s₁ [] 0 0 := Stand.of_body Bd
  have e0 : s₁.heap = h0 := by rw [← hh, Bd.state]; rfl
  have N0 := Fr.nil n0
  have hret := Bd.returns
  have hlk : meth.locks = false := Bd.notSynchronized
  show own_E p e below s ({ frames := 0, cells := 0, slots := 0, locals := 0 } : Room).cells ({ frames := 0, cells := 0, slots := 0, locals := 0 } : Room).slots (Q_g_template Z a tv h0 n0) s₁ (entryFrame m #[(.ref a)] 1)
  rw [ef_g_template m a]
  refine own_st (T' := s₁) (g' := (mkF m 1 #[.val (.ref a)] [(.ref a)])) (fun t_ k_ => XS.aloadN X0.here hx rfl (hb hby d14_0) rfl rfl  k_) ?_
  obtain ⟨T1, X1, e1, st1⟩ := getF X0 hx hZ hown (host := "") (Or.inl (hw _ (List.mem_of_getElem? (i := 53) rfl))) Via.refl e0 F1 (g := (mkF m 1 #[.val (.ref a)] [(.ref a)])) rfl rfl (hb hby d14_1)
  refine own_st (T' := T1) (g' := (mkF m 4 #[.val (.ref a)] [tv])) st1 ?_
  exact own_retA X1 hx hret rfl it hlk (hb hby d14_4) (by decide) (by decide) ⟨rfl, N0, e1⟩
theorem d11_0 : decode prog_48_method_11_code 0 = .ok (.aload_n 0, 1) := by decide +kernel
theorem d11_1 : decode prog_48_method_11_code 1 = .ok (.getfield 17, 3) := by decide +kernel
theorem d11_4 : decode prog_48_method_11_code 4 = .ok (.areturn, 1) := by decide +kernel
theorem ef_g_model (m : MethodId) (x0 : Addr) : entryFrame m #[(.ref x0)] 1 = mkF m 0 #[.val (.ref x0)] [] := by first | (simp [entryFrame, mkF, argsToLocals, Value.category]; done) | rfl
def Q_g_model (Z : State) (a : Addr) (tv : Value) (h0 : Heap) (n0 : Nat) (v : Option Value) (h : Heap) (L : List Loc) : Prop := (v = some tv) ∧ (Fr n0 L) ∧ (h = h0)
set_option maxRecDepth 65536 in
set_option maxHeartbeats 40000000 in
theorem rm_g_model (l : Launch) (Z : State) (a0 : Array Value) (hw : ∀ d ∈ tables_1, d.before a0 Z = true) (ws : List Jvm.Cond) (a : Addr) (tv : Value) (h0 : Heap) (n0 : Nat) (O0 : Old Z n0 h0) (F1 : Fld Z h0 a "com/example/ixora/ixora/web/Page" "model" "Ljava/util/Map;" tv) (it : tv.isRef = true) :
    MetFree l (⟨"com/example/ixora/ixora/web/Page", "model", "()Ljava/util/Map;"⟩ : MethodName) (head1 (Jvm.Cond.code (⟨"com/example/ixora/ixora/web/Page", "model", "()Ljava/util/Map;"⟩ : MethodName) prog_48_method_11_code 1 (some (.object "java/util/Map")) :: ws) ({ frames := 0, cells := 0, slots := 0, locals := 0 } : Room)) (fun ar_ U => ar_ = #[(.ref a)] ∧ Z.Warmed39 U.vm ∧ U.heap = h0) (fun _ _ _ _ _ => True) (fun _ U o U' => ∃ v L, o = .returned v ∧ Q_g_model Z a tv h0 n0 v U'.heap L ∧ FrameEnd U o U' L ({ frames := 0, cells := 0, slots := 0, locals := 0 } : Room).cells ({ frames := 0, cells := 0, slots := 0, locals := 0 } : Room).slots) := by
  refine MetFree.of_bodySF (plainFor_of_name pn_3) hisR ?_
  intro p e s m args below meth c s₁ Bd hml0 hP hK
  obtain ⟨rfl, hZ, hh⟩ := hP
  have hx := Bd.exec
  have hby := Bd.bytes
  have hml : c.maxLocals = 1 := hml0
  have hown : s.vm.findClass "com/example/ixora/ixora/web/Page" = some m.cls := findClass_of_methodNamed Bd.named
  have hnm := (name_of_methodNamed Bd.named Bd.method).1
  have X0 : Stand p l e ({ frames := 0, cells := 0, slots := 0, locals := 0 } : Room) s m #[(.ref a)] below meth c s₁ [] 0 0 := Stand.of_body Bd
  have e0 : s₁.heap = h0 := by rw [← hh, Bd.state]; rfl
  have N0 := Fr.nil n0
  have hret := Bd.returns
  have hlk : meth.locks = false := Bd.notSynchronized
  show own_E p e below s ({ frames := 0, cells := 0, slots := 0, locals := 0 } : Room).cells ({ frames := 0, cells := 0, slots := 0, locals := 0 } : Room).slots (Q_g_model Z a tv h0 n0) s₁ (entryFrame m #[(.ref a)] 1)
  rw [ef_g_model m a]
  refine own_st (T' := s₁) (g' := (mkF m 1 #[.val (.ref a)] [(.ref a)])) (fun t_ k_ => XS.aloadN X0.here hx rfl (hb hby d11_0) rfl rfl  k_) ?_
  obtain ⟨T1, X1, e1, st1⟩ := getF X0 hx hZ hown (host := "") (Or.inl (hw _ (List.mem_of_getElem? (i := 55) rfl))) Via.refl e0 F1 (g := (mkF m 1 #[.val (.ref a)] [(.ref a)])) rfl rfl (hb hby d11_1)
  refine own_st (T' := T1) (g' := (mkF m 4 #[.val (.ref a)] [tv])) st1 ?_
  exact own_retA X1 hx hret rfl it hlk (hb hby d11_4) (by decide) (by decide) ⟨rfl, N0, e1⟩
theorem d15_0 : decode prog_48_method_12_code 0 = .ok (.aload_n 0, 1) := by decide +kernel
theorem d15_1 : decode prog_48_method_12_code 1 = .ok (.getfield 21, 3) := by decide +kernel
theorem d15_4 : decode prog_48_method_12_code 4 = .ok (.areturn, 1) := by decide +kernel
theorem ef_g_location (m : MethodId) (x0 : Addr) : entryFrame m #[(.ref x0)] 1 = mkF m 0 #[.val (.ref x0)] [] := by first | (simp [entryFrame, mkF, argsToLocals, Value.category]; done) | rfl
def Q_g_location (Z : State) (a : Addr) (tv : Value) (h0 : Heap) (n0 : Nat) (v : Option Value) (h : Heap) (L : List Loc) : Prop := (v = some tv) ∧ (Fr n0 L) ∧ (h = h0)
set_option maxRecDepth 65536 in
set_option maxHeartbeats 40000000 in
theorem rm_g_location (l : Launch) (Z : State) (a0 : Array Value) (hw : ∀ d ∈ tables_1, d.before a0 Z = true) (ws : List Jvm.Cond) (a : Addr) (tv : Value) (h0 : Heap) (n0 : Nat) (O0 : Old Z n0 h0) (F1 : Fld Z h0 a "com/example/ixora/ixora/web/Page" "location" "Ljava/lang/String;" tv) (it : tv.isRef = true) :
    MetFree l (⟨"com/example/ixora/ixora/web/Page", "location", "()Ljava/lang/String;"⟩ : MethodName) (head1 (Jvm.Cond.code (⟨"com/example/ixora/ixora/web/Page", "location", "()Ljava/lang/String;"⟩ : MethodName) prog_48_method_12_code 1 (some (.object "java/lang/String")) :: ws) ({ frames := 0, cells := 0, slots := 0, locals := 0 } : Room)) (fun ar_ U => ar_ = #[(.ref a)] ∧ Z.Warmed39 U.vm ∧ U.heap = h0) (fun _ _ _ _ _ => True) (fun _ U o U' => ∃ v L, o = .returned v ∧ Q_g_location Z a tv h0 n0 v U'.heap L ∧ FrameEnd U o U' L ({ frames := 0, cells := 0, slots := 0, locals := 0 } : Room).cells ({ frames := 0, cells := 0, slots := 0, locals := 0 } : Room).slots) := by
  refine MetFree.of_bodySF (plainFor_of_name pn_3) hisR ?_
  intro p e s m args below meth c s₁ Bd hml0 hP hK
  obtain ⟨rfl, hZ, hh⟩ := hP
  have hx := Bd.exec
  have hby := Bd.bytes
  have hml : c.maxLocals = 1 := hml0
  have hown : s.vm.findClass "com/example/ixora/ixora/web/Page" = some m.cls := findClass_of_methodNamed Bd.named
  have hnm := (name_of_methodNamed Bd.named Bd.method).1
  have X0 : Stand p l e ({ frames := 0, cells := 0, slots := 0, locals := 0 } : Room) s m #[(.ref a)] below meth c s₁ [] 0 0 := Stand.of_body Bd
  have e0 : s₁.heap = h0 := by rw [← hh, Bd.state]; rfl
  have N0 := Fr.nil n0
  have hret := Bd.returns
  have hlk : meth.locks = false := Bd.notSynchronized
  show own_E p e below s ({ frames := 0, cells := 0, slots := 0, locals := 0 } : Room).cells ({ frames := 0, cells := 0, slots := 0, locals := 0 } : Room).slots (Q_g_location Z a tv h0 n0) s₁ (entryFrame m #[(.ref a)] 1)
  rw [ef_g_location m a]
  refine own_st (T' := s₁) (g' := (mkF m 1 #[.val (.ref a)] [(.ref a)])) (fun t_ k_ => XS.aloadN X0.here hx rfl (hb hby d15_0) rfl rfl  k_) ?_
  obtain ⟨T1, X1, e1, st1⟩ := getF X0 hx hZ hown (host := "") (Or.inl (hw _ (List.mem_of_getElem? (i := 57) rfl))) Via.refl e0 F1 (g := (mkF m 1 #[.val (.ref a)] [(.ref a)])) rfl rfl (hb hby d15_1)
  refine own_st (T' := T1) (g' := (mkF m 4 #[.val (.ref a)] [tv])) st1 ?_
  exact own_retA X1 hx hret rfl it hlk (hb hby d15_4) (by decide) (by decide) ⟨rfl, N0, e1⟩
theorem pd__I_Lcom_example_ixora_ixora_web_Page_ : parseMethodDescriptor "(I)Lcom/example/ixora/ixora/web/Page;" = some ⟨[.int], some (.object "com/example/ixora/ixora/web/Page")⟩ := by decide +kernel
theorem pd___I : parseMethodDescriptor "()I" = some ⟨[], some .int⟩ := by decide +kernel
theorem pd___Ljava_lang_String_ : parseMethodDescriptor "()Ljava/lang/String;" = some ⟨[], some (.object "java/lang/String")⟩ := by decide +kernel
set_option maxRecDepth 65536 in
set_option maxHeartbeats 40000000 in
theorem seg_p117 {p : Program} {l : Launch} {e : Env} {s : State} {m : MethodId} {args : Array Value} {below : List Frame} {meth : Method} {c : Code} {T0 : State} {locs : List Loc} {Z : State} {a0 : Array Value} (h0 : Heap) (hB : Heap) (n0 : Nat) (p0 : Int32) (p1 : Int32) (p2 : Int32) (p3 : Int32) (p4 : Int32) (va : Addr) (vb : Addr) (tv : Value) (mv : Value) (lv : Value)
    (X0 : Stand p l e room_1 s m args below meth c T0 locs 8 24) (hx : p.tables.exec = Jvm.exec) (hZ : Z.Warmed39 s.vm) (hw : ∀ d ∈ tables_1, d.before a0 Z = true) (hby : c.code = code) (hml : c.maxLocals = 14) (hown : s.vm.findClass "com/example/ixora/ixora/web/PageWithStatusPinLaw" = some m.cls) (hnm : meth.name = "law") (hret : meth.sig.returnType = some .boolean) (hlk : meth.locks = false) (e0 : T0.heap = hB) (N0 : Fr n0 locs) (O0 : Old Z n0 hB) (it : tv.isRef = true) (im : mv.isRef = true) (il : lv.isRef = true) :
    own_E p e below s room_1.cells room_1.slots (own_L n0) T0 (mkF m 117 #[.val (.int p0), .val (.int p1), .val (.int p2), .val (.int p3), .val (.int p4), .val (.ref va), .val (.ref vb), .val tv, .val lv, .val mv, .unset, .unset, .unset, .unset] []) := by
  obtain ⟨T1, h1, X1, e1, E1, A1, D1, -, st1⟩ := newO X0 hx hZ hown (hw _ (List.mem_of_getElem? (i := 64) rfl)) (hw _ (List.mem_of_getElem? (i := 35) rfl)) (hw _ (List.mem_of_getElem? (i := 32) rfl)) e0 (g := (mkF m 117 #[.val (.int p0), .val (.int p1), .val (.int p2), .val (.int p3), .val (.int p4), .val (.ref va), .val (.ref vb), .val tv, .val lv, .val mv, .unset, .unset, .unset, .unset] [])) rfl (hb hby at_117) (by decide) (by decide)
  obtain ⟨b1, g1⟩ : ∃ z, z = hB.size := ⟨_, rfl⟩
  rw [← g1] at A1 D1 st1
  have fr1 : n0 ≤ b1 := Nat.le_trans (own_z O0) (Nat.le_of_eq g1.symm)
  have F1_status : Fld Z h1 b1 "com/example/ixora/ixora/web/Page" "status" "I" (.int (0 : Int32)) := D1 (Or.inr (hw _ (List.mem_of_getElem? (i := 52) rfl))) (ty := .int) (by decide)
  have F1_template : Fld Z h1 b1 "com/example/ixora/ixora/web/Page" "template" "Ljava/lang/String;" .null := D1 (Or.inr (hw _ (List.mem_of_getElem? (i := 54) rfl))) (ty := (.object "java/lang/String")) (by decide)
  have F1_model : Fld Z h1 b1 "com/example/ixora/ixora/web/Page" "model" "Ljava/util/Map;" .null := D1 (Or.inr (hw _ (List.mem_of_getElem? (i := 56) rfl))) (ty := (.object "java/util/Map")) (by decide)
  have F1_location : Fld Z h1 b1 "com/example/ixora/ixora/web/Page" "location" "Ljava/lang/String;" .null := D1 (Or.inr (hw _ (List.mem_of_getElem? (i := 58) rfl))) (ty := (.object "java/lang/String")) (by decide)
  refine own_st (T' := T1) (g' := (mkF m 120 #[.val (.int p0), .val (.int p1), .val (.int p2), .val (.int p3), .val (.int p4), .val (.ref va), .val (.ref vb), .val tv, .val lv, .val mv, .unset, .unset, .unset, .unset] [(.ref b1)])) st1 ?_
  refine own_st (T' := T1) (g' := (mkF m 121 #[.val (.int p0), .val (.int p1), .val (.int p2), .val (.int p3), .val (.int p4), .val (.ref va), .val (.ref vb), .val tv, .val lv, .val mv, .unset, .unset, .unset, .unset] [(.ref b1), (.ref b1)])) (fun t_ k_ => XS.dup X1.here hx rfl (hb hby at_120) rfl rfl k_) ?_
  refine own_st (T' := T1) (g' := (mkF m 122 #[.val (.int p0), .val (.int p1), .val (.int p2), .val (.int p3), .val (.int p4), .val (.ref va), .val (.ref vb), .val tv, .val lv, .val mv, .unset, .unset, .unset, .unset] [(.int p0), (.ref b1), (.ref b1)])) (fun t_ k_ => XS.iloadN X1.here hx rfl (hb hby at_121) rfl  k_) ?_
  refine own_st (T' := T1) (g' := (mkF m 124 #[.val (.int p0), .val (.int p1), .val (.int p2), .val (.int p3), .val (.int p4), .val (.ref va), .val (.ref vb), .val tv, .val lv, .val mv, .unset, .unset, .unset, .unset] [tv, (.int p0), (.ref b1), (.ref b1)])) (fun t_ k_ => XS.aload X1.here hx rfl (hb hby at_122) rfl it  k_) ?_
  refine own_st (T' := T1) (g' := (mkF m 126 #[.val (.int p0), .val (.int p1), .val (.int p2), .val (.int p3), .val (.int p4), .val (.ref va), .val (.ref vb), .val tv, .val lv, .val mv, .unset, .unset, .unset, .unset] [mv, tv, (.int p0), (.ref b1), (.ref b1)])) (fun t_ k_ => XS.aload X1.here hx rfl (hb hby at_124) rfl im  k_) ?_
  refine own_st (T' := T1) (g' := (mkF m 128 #[.val (.int p0), .val (.int p1), .val (.int p2), .val (.int p3), .val (.int p4), .val (.ref va), .val (.ref vb), .val tv, .val lv, .val mv, .unset, .unset, .unset, .unset] [lv, mv, tv, (.int p0), (.ref b1), (.ref b1)])) (fun t_ k_ => XS.aload X1.here hx rfl (hb hby at_126) rfl il  k_) ?_
  have f2 : Old Z n0 h1 := O0.ext E1
  obtain ⟨_, _, ⟨T3, L3, k3, n3⟩, -, X3, ⟨Lc3, hQ3, l3, y3, z3⟩, st3⟩ := X1.specialBack hx (y := (⟨"com/example/ixora/ixora/web/Page", "<init>", "(ILjava/lang/String;Ljava/util/Map;Ljava/lang/String;)V"⟩ : MethodName)) rfl hown (mvT hZ (hw _ (List.mem_of_getElem? (i := 65) rfl))) (mvT hZ (hw _ (List.mem_of_getElem? (i := 43) rfl))) (mvT hZ (hw _ (List.mem_of_getElem? (i := 44) rfl))) (by decide) (backOf (W := 1) (rm_pini l Z a0 hw [] b1 p0 tv mv lv h1 n0 f2 A1 F1_status F1_template F1_model F1_location fr1 it im il) hZ (hw _ (List.mem_of_getElem? (i := 44) rfl)) (hw _ (List.mem_of_getElem? (i := 32) rfl)) (by decide) (by decide)) (g := (mkF m 128 #[.val (.int p0), .val (.int p1), .val (.int p2), .val (.int p3), .val (.int p4), .val (.ref va), .val (.ref vb), .val tv, .val lv, .val mv, .unset, .unset, .unset, .unset] [lv, mv, tv, (.int p0), (.ref b1), (.ref b1)])) rfl (by rw [hml]; rfl) (Steps.refl _) (a := b1) (argsL := [(.int p0), tv, mv, lv]) (rest := [(.ref b1)]) (lenOf pd__ILjava_lang_String_Ljava_util_Map_Ljava_lang_String__V rfl) rfl (by show 2 * 0 + _ ≤ _; exact Nat.le_of_eq rfl) (hb hby at_128) (fun _ _ => ⟨rfl, e1, (by decide : 9 + 0 ≤ _), (by decide : 28 + 0 ≤ _)⟩)
  dsimp only [Pt.U, Pt.locs, Pt.cells, Pt.slots] at X3 l3 y3 z3 st3 hQ3
  subst l3 y3 z3
  obtain ⟨rfl, Nq3, K3, fq3_0, fq3_1, fq3_2, fq3_3, fq3_4⟩ := hQ3
  have N3 := Fr.app N0 Nq3
  refine own_st (T' := T3) (g' := (mkF m 131 #[.val (.int p0), .val (.int p1), .val (.int p2), .val (.int p3), .val (.int p4), .val (.ref va), .val (.ref vb), .val tv, .val lv, .val mv, .unset, .unset, .unset, .unset] [(.ref b1)])) (fun t_ k_ => st3.trans k_) ?_
  refine own_st (T' := T3) (g' := (mkF m 133 #[.val (.int p0), .val (.int p1), .val (.int p2), .val (.int p3), .val (.int p4), .val (.ref va), .val (.ref vb), .val tv, .val lv, .val mv, .val (.ref b1), .unset, .unset, .unset] [])) (fun t_ k_ => XS.astore X3.here hx rfl (hb hby at_131) rfl rfl (l' := #[.val (.int p0), .val (.int p1), .val (.int p2), .val (.int p3), .val (.int p4), .val (.ref va), .val (.ref vb), .val tv, .val lv, .val mv, .val (.ref b1), .unset, .unset, .unset]) rfl k_) ?_
  refine own_st (T' := T3) (g' := (mkF m 135 #[.val (.int p0), .val (.int p1), .val (.int p2), .val (.int p3), .val (.int p4), .val (.ref va), .val (.ref vb), .val tv, .val lv, .val mv, .val (.ref b1), .unset, .unset, .unset] [(.ref b1)])) (fun t_ k_ => XS.aload X3.here hx rfl (hb hby at_133) rfl rfl  k_) ?_
  refine own_st (T' := T3) (g' := (mkF m 136 #[.val (.int p0), .val (.int p1), .val (.int p2), .val (.int p3), .val (.int p4), .val (.ref va), .val (.ref vb), .val tv, .val lv, .val mv, .val (.ref b1), .unset, .unset, .unset] [(.int p1), (.ref b1)])) (fun t_ k_ => XS.iloadN X3.here hx rfl (hb hby at_135) rfl  k_) ?_
  have f4 : Old Z n0 T3.heap := f2.keep K3 (allS fr1 all0)
  obtain ⟨cq5, kq5, q5a, q5b, q5c⟩ := isOf hZ rfl fq3_0
  obtain ⟨_, _, ⟨T5, L5, k5, n5⟩, -, X5, ⟨Lc5, hQ5, l5, y5, z5⟩, st5⟩ := X3.virtualBack hx (y := (⟨"com/example/ixora/ixora/web/Page", "withStatus", "(I)Lcom/example/ixora/ixora/web/Page;"⟩ : MethodName)) (z := (⟨"com/example/ixora/ixora/web/Page", "withStatus", "(I)Lcom/example/ixora/ixora/web/Page;"⟩ : MethodName)) hown (mvT hZ (hw _ (List.mem_of_getElem? (i := 66) rfl))) (mvT hZ (hw _ (List.mem_of_getElem? (i := 67) rfl))) (notFace_of_selects (args := #[]) (mvT hZ (hw _ (List.mem_of_getElem? (i := 69) rfl)))) (mvT hZ (hw _ (List.mem_of_getElem? (i := 69) rfl))) (mvT hZ (hw _ (List.mem_of_getElem? (i := 68) rfl))) (by decide) (backOf (W := 0) (rm_wst l Z a0 hw [] b1 p1 tv mv lv T3.heap n0 f4 fq3_2 fq3_3 fq3_4 it im il) hZ (hw _ (List.mem_of_getElem? (i := 70) rfl)) (hw _ (List.mem_of_getElem? (i := 32) rfl)) (by decide) (by decide)) q5a q5c (g := (mkF m 136 #[.val (.int p0), .val (.int p1), .val (.int p2), .val (.int p3), .val (.int p4), .val (.ref va), .val (.ref vb), .val tv, .val lv, .val mv, .val (.ref b1), .unset, .unset, .unset] [(.int p1), (.ref b1)])) rfl (by rw [hml]; rfl) (Steps.refl _) (argsL := [(.int p1)]) (rest := []) (lenOf pd__I_Lcom_example_ixora_ixora_web_Page_ rfl) rfl (by show 2 * 0 + _ ≤ _; exact Nat.le_of_eq rfl) (hb hby at_136) (fun _ _ => ⟨rfl, rfl, (by decide : 9 + 1 ≤ _), (by decide : 28 + 4 ≤ _)⟩)
  dsimp only [Pt.U, Pt.locs, Pt.cells, Pt.slots] at X5 l5 y5 z5 st5 hQ5
  subst l5 y5 z5
  obtain ⟨b5, rfl, Nq5, K5, fq5_0, fq5_1, fq5_2, fq5_3, fq5_4, xq5_fresh_b⟩ := hQ5
  have N5 := Fr.app N3 Nq5
  refine own_st (T' := T5) (g' := (mkF m 139 #[.val (.int p0), .val (.int p1), .val (.int p2), .val (.int p3), .val (.int p4), .val (.ref va), .val (.ref vb), .val tv, .val lv, .val mv, .val (.ref b1), .unset, .unset, .unset] [(.ref b5)])) (fun t_ k_ => st5.trans k_) ?_
  refine own_st (T' := T5) (g' := (mkF m 141 #[.val (.int p0), .val (.int p1), .val (.int p2), .val (.int p3), .val (.int p4), .val (.ref va), .val (.ref vb), .val tv, .val lv, .val mv, .val (.ref b1), .val (.ref b5), .unset, .unset] [])) (fun t_ k_ => XS.astore X5.here hx rfl (hb hby at_139) rfl rfl (l' := #[.val (.int p0), .val (.int p1), .val (.int p2), .val (.int p3), .val (.int p4), .val (.ref va), .val (.ref vb), .val tv, .val lv, .val mv, .val (.ref b1), .val (.ref b5), .unset, .unset]) rfl k_) ?_
  refine own_st (T' := T5) (g' := (mkF m 143 #[.val (.int p0), .val (.int p1), .val (.int p2), .val (.int p3), .val (.int p4), .val (.ref va), .val (.ref vb), .val tv, .val lv, .val mv, .val (.ref b1), .val (.ref b5), .unset, .unset] [(.ref b5)])) (fun t_ k_ => XS.aload X5.here hx rfl (hb hby at_141) rfl rfl  k_) ?_
  refine own_st (T' := T5) (g' := (mkF m 148 #[.val (.int p0), .val (.int p1), .val (.int p2), .val (.int p3), .val (.int p4), .val (.ref va), .val (.ref vb), .val tv, .val lv, .val mv, .val (.ref b1), .val (.ref b5), .unset, .unset] [])) (fun t_ k_ => XS.ifnonnullYes X5.here hx rfl (pc0 := 143) (pc' := 148) rfl (hb hby at_143) rfl (by decide) (by decide) k_) ?_
  refine own_st (T' := T5) (g' := (mkF m 150 #[.val (.int p0), .val (.int p1), .val (.int p2), .val (.int p3), .val (.int p4), .val (.ref va), .val (.ref vb), .val tv, .val lv, .val mv, .val (.ref b1), .val (.ref b5), .unset, .unset] [(.ref b5)])) (fun t_ k_ => XS.aload X5.here hx rfl (hb hby at_148) rfl rfl  k_) ?_
  have f6 : Old Z n0 T5.heap := f4.keep K5 all0
  obtain ⟨cq7, kq7, q7a, q7b, q7c⟩ := isOf hZ rfl fq5_0
  obtain ⟨_, _, ⟨T7, L7, k7, n7⟩, -, X7, ⟨Lc7, hQ7, l7, y7, z7⟩, st7⟩ := X5.virtualBack hx (y := (⟨"com/example/ixora/ixora/web/Page", "status", "()I"⟩ : MethodName)) (z := (⟨"com/example/ixora/ixora/web/Page", "status", "()I"⟩ : MethodName)) hown (mvT hZ (hw _ (List.mem_of_getElem? (i := 71) rfl))) (mvT hZ (hw _ (List.mem_of_getElem? (i := 72) rfl))) (notFace_of_selects (args := #[]) (mvT hZ (hw _ (List.mem_of_getElem? (i := 74) rfl)))) (mvT hZ (hw _ (List.mem_of_getElem? (i := 74) rfl))) (mvT hZ (hw _ (List.mem_of_getElem? (i := 73) rfl))) (by decide) (backOf (W := 0) (rm_g_status l Z a0 hw [] b5 p1 T5.heap n0 f6 fq5_1) hZ (hw _ (List.mem_of_getElem? (i := 75) rfl)) (hw _ (List.mem_of_getElem? (i := 32) rfl)) (by decide) (by decide)) q7a q7c (g := (mkF m 150 #[.val (.int p0), .val (.int p1), .val (.int p2), .val (.int p3), .val (.int p4), .val (.ref va), .val (.ref vb), .val tv, .val lv, .val mv, .val (.ref b1), .val (.ref b5), .unset, .unset] [(.ref b5)])) rfl (by rw [hml]; rfl) (Steps.refl _) (argsL := []) (rest := []) (lenOf pd___I rfl) rfl (by show 2 * 0 + _ ≤ _; exact Nat.le_of_eq rfl) (hb hby at_150) (fun _ _ => ⟨rfl, rfl, (by decide : 10 + 0 ≤ _), (by decide : 32 + 0 ≤ _)⟩)
  dsimp only [Pt.U, Pt.locs, Pt.cells, Pt.slots] at X7 l7 y7 z7 st7 hQ7
  subst l7 y7 z7
  obtain ⟨rfl, Nq7, eq7⟩ := hQ7
  have N7 := Fr.app N5 Nq7
  refine own_st (T' := T7) (g' := (mkF m 153 #[.val (.int p0), .val (.int p1), .val (.int p2), .val (.int p3), .val (.int p4), .val (.ref va), .val (.ref vb), .val tv, .val lv, .val mv, .val (.ref b1), .val (.ref b5), .unset, .unset] [(.int p1)])) (fun t_ k_ => st7.trans k_) ?_
  refine own_st (T' := T7) (g' := (mkF m 154 #[.val (.int p0), .val (.int p1), .val (.int p2), .val (.int p3), .val (.int p4), .val (.ref va), .val (.ref vb), .val tv, .val lv, .val mv, .val (.ref b1), .val (.ref b5), .unset, .unset] [(.int p1), (.int p1)])) (fun t_ k_ => XS.iloadN X7.here hx rfl (hb hby at_153) rfl  k_) ?_
  refine own_st (T' := T7) (g' := (mkF m 157 #[.val (.int p0), .val (.int p1), .val (.int p2), .val (.int p3), .val (.int p4), .val (.ref va), .val (.ref vb), .val tv, .val lv, .val mv, .val (.ref b1), .val (.ref b5), .unset, .unset] [])) (fun t_ k_ => XS.icmpNo X7.here hx rfl (hb hby at_154) rfl (teq (rfl : p1 = p1)).2 k_) ?_
  refine own_st (T' := T7) (g' := (mkF m 159 #[.val (.int p0), .val (.int p1), .val (.int p2), .val (.int p3), .val (.int p4), .val (.ref va), .val (.ref vb), .val tv, .val lv, .val mv, .val (.ref b1), .val (.ref b5), .unset, .unset] [(.ref b5)])) (fun t_ k_ => XS.aload X7.here hx rfl (hb hby at_157) rfl rfl  k_) ?_
  obtain ⟨cq8, kq8, q8a, q8b, q8c⟩ := isOf hZ eq7 fq5_0
  obtain ⟨_, _, ⟨T8, L8, k8, n8⟩, -, X8, ⟨Lc8, hQ8, l8, y8, z8⟩, st8⟩ := X7.virtualBack hx (y := (⟨"com/example/ixora/ixora/web/Page", "template", "()Ljava/lang/String;"⟩ : MethodName)) (z := (⟨"com/example/ixora/ixora/web/Page", "template", "()Ljava/lang/String;"⟩ : MethodName)) hown (mvT hZ (hw _ (List.mem_of_getElem? (i := 76) rfl))) (mvT hZ (hw _ (List.mem_of_getElem? (i := 77) rfl))) (notFace_of_selects (args := #[]) (mvT hZ (hw _ (List.mem_of_getElem? (i := 79) rfl)))) (mvT hZ (hw _ (List.mem_of_getElem? (i := 79) rfl))) (mvT hZ (hw _ (List.mem_of_getElem? (i := 78) rfl))) (by decide) (backOf (W := 0) (rm_g_template l Z a0 hw [] b5 tv T5.heap n0 f6 fq5_2 it) hZ (hw _ (List.mem_of_getElem? (i := 80) rfl)) (hw _ (List.mem_of_getElem? (i := 32) rfl)) (by decide) (by decide)) q8a q8c (g := (mkF m 159 #[.val (.int p0), .val (.int p1), .val (.int p2), .val (.int p3), .val (.int p4), .val (.ref va), .val (.ref vb), .val tv, .val lv, .val mv, .val (.ref b1), .val (.ref b5), .unset, .unset] [(.ref b5)])) rfl (by rw [hml]; rfl) (Steps.refl _) (argsL := []) (rest := []) (lenOf pd___Ljava_lang_String_ rfl) rfl (by show 2 * 0 + _ ≤ _; exact Nat.le_of_eq rfl) (hb hby at_159) (fun _ _ => ⟨rfl, eq7, (by decide : 10 + 0 ≤ _), (by decide : 32 + 0 ≤ _)⟩)
  dsimp only [Pt.U, Pt.locs, Pt.cells, Pt.slots] at X8 l8 y8 z8 st8 hQ8
  subst l8 y8 z8
  obtain ⟨rfl, Nq8, eq8⟩ := hQ8
  have N8 := Fr.app N7 Nq8
  refine own_st (T' := T8) (g' := (mkF m 162 #[.val (.int p0), .val (.int p1), .val (.int p2), .val (.int p3), .val (.int p4), .val (.ref va), .val (.ref vb), .val tv, .val lv, .val mv, .val (.ref b1), .val (.ref b5), .unset, .unset] [tv])) (fun t_ k_ => st8.trans k_) ?_
  refine own_st (T' := T8) (g' := (mkF m 164 #[.val (.int p0), .val (.int p1), .val (.int p2), .val (.int p3), .val (.int p4), .val (.ref va), .val (.ref vb), .val tv, .val lv, .val mv, .val (.ref b1), .val (.ref b5), .unset, .unset] [tv, tv])) (fun t_ k_ => XS.aload X8.here hx rfl (hb hby at_162) rfl it  k_) ?_
  refine own_st (T' := T8) (g' := (mkF m 167 #[.val (.int p0), .val (.int p1), .val (.int p2), .val (.int p3), .val (.int p4), .val (.ref va), .val (.ref vb), .val tv, .val lv, .val mv, .val (.ref b1), .val (.ref b5), .unset, .unset] [])) (fun t_ k_ => Jvm.RoadKit.acmp (g := (mkF m 164 #[.val (.int p0), .val (.int p1), .val (.int p2), .val (.int p3), .val (.int p4), .val (.ref va), .val (.ref vb), .val tv, .val lv, .val mv, .val (.ref b1), .val (.ref b5), .unset, .unset] [tv, tv])) X8 hx rfl it it (pc0 := 164) (pc' := 167) (same := true) rfl (hb hby at_164) rfl (decide_eq_true rfl) (by decide) (by decide) k_) ?_
  refine own_st (T' := T8) (g' := (mkF m 169 #[.val (.int p0), .val (.int p1), .val (.int p2), .val (.int p3), .val (.int p4), .val (.ref va), .val (.ref vb), .val tv, .val lv, .val mv, .val (.ref b1), .val (.ref b5), .unset, .unset] [(.ref b5)])) (fun t_ k_ => XS.aload X8.here hx rfl (hb hby at_167) rfl rfl  k_) ?_
  obtain ⟨cq9, kq9, q9a, q9b, q9c⟩ := isOf hZ eq8 fq5_0
  obtain ⟨_, _, ⟨T9, L9, k9, n9⟩, -, X9, ⟨Lc9, hQ9, l9, y9, z9⟩, st9⟩ := X8.virtualBack hx (y := (⟨"com/example/ixora/ixora/web/Page", "model", "()Ljava/util/Map;"⟩ : MethodName)) (z := (⟨"com/example/ixora/ixora/web/Page", "model", "()Ljava/util/Map;"⟩ : MethodName)) hown (mvT hZ (hw _ (List.mem_of_getElem? (i := 59) rfl))) (mvT hZ (hw _ (List.mem_of_getElem? (i := 60) rfl))) (notFace_of_selects (args := #[]) (mvT hZ (hw _ (List.mem_of_getElem? (i := 62) rfl)))) (mvT hZ (hw _ (List.mem_of_getElem? (i := 62) rfl))) (mvT hZ (hw _ (List.mem_of_getElem? (i := 61) rfl))) (by decide) (backOf (W := 0) (rm_g_model l Z a0 hw [] b5 mv T5.heap n0 f6 fq5_3 im) hZ (hw _ (List.mem_of_getElem? (i := 63) rfl)) (hw _ (List.mem_of_getElem? (i := 32) rfl)) (by decide) (by decide)) q9a q9c (g := (mkF m 169 #[.val (.int p0), .val (.int p1), .val (.int p2), .val (.int p3), .val (.int p4), .val (.ref va), .val (.ref vb), .val tv, .val lv, .val mv, .val (.ref b1), .val (.ref b5), .unset, .unset] [(.ref b5)])) rfl (by rw [hml]; rfl) (Steps.refl _) (argsL := []) (rest := []) (lenOf pd___Ljava_util_Map_ rfl) rfl (by show 2 * 0 + _ ≤ _; exact Nat.le_of_eq rfl) (hb hby at_169) (fun _ _ => ⟨rfl, eq8, (by decide : 10 + 0 ≤ _), (by decide : 32 + 0 ≤ _)⟩)
  dsimp only [Pt.U, Pt.locs, Pt.cells, Pt.slots] at X9 l9 y9 z9 st9 hQ9
  subst l9 y9 z9
  obtain ⟨rfl, Nq9, eq9⟩ := hQ9
  have N9 := Fr.app N8 Nq9
  refine own_st (T' := T9) (g' := (mkF m 172 #[.val (.int p0), .val (.int p1), .val (.int p2), .val (.int p3), .val (.int p4), .val (.ref va), .val (.ref vb), .val tv, .val lv, .val mv, .val (.ref b1), .val (.ref b5), .unset, .unset] [mv])) (fun t_ k_ => st9.trans k_) ?_
  refine own_st (T' := T9) (g' := (mkF m 174 #[.val (.int p0), .val (.int p1), .val (.int p2), .val (.int p3), .val (.int p4), .val (.ref va), .val (.ref vb), .val tv, .val lv, .val mv, .val (.ref b1), .val (.ref b5), .unset, .unset] [mv, mv])) (fun t_ k_ => XS.aload X9.here hx rfl (hb hby at_172) rfl im  k_) ?_
  refine own_st (T' := T9) (g' := (mkF m 177 #[.val (.int p0), .val (.int p1), .val (.int p2), .val (.int p3), .val (.int p4), .val (.ref va), .val (.ref vb), .val tv, .val lv, .val mv, .val (.ref b1), .val (.ref b5), .unset, .unset] [])) (fun t_ k_ => Jvm.RoadKit.acmp (g := (mkF m 174 #[.val (.int p0), .val (.int p1), .val (.int p2), .val (.int p3), .val (.int p4), .val (.ref va), .val (.ref vb), .val tv, .val lv, .val mv, .val (.ref b1), .val (.ref b5), .unset, .unset] [mv, mv])) X9 hx rfl im im (pc0 := 174) (pc' := 177) (same := true) rfl (hb hby at_174) rfl (decide_eq_true rfl) (by decide) (by decide) k_) ?_
  refine own_st (T' := T9) (g' := (mkF m 179 #[.val (.int p0), .val (.int p1), .val (.int p2), .val (.int p3), .val (.int p4), .val (.ref va), .val (.ref vb), .val tv, .val lv, .val mv, .val (.ref b1), .val (.ref b5), .unset, .unset] [(.ref b5)])) (fun t_ k_ => XS.aload X9.here hx rfl (hb hby at_177) rfl rfl  k_) ?_
  obtain ⟨cq10, kq10, q10a, q10b, q10c⟩ := isOf hZ eq9 fq5_0
  obtain ⟨_, _, ⟨T10, L10, k10, n10⟩, -, X10, ⟨Lc10, hQ10, l10, y10, z10⟩, st10⟩ := X9.virtualBack hx (y := (⟨"com/example/ixora/ixora/web/Page", "location", "()Ljava/lang/String;"⟩ : MethodName)) (z := (⟨"com/example/ixora/ixora/web/Page", "location", "()Ljava/lang/String;"⟩ : MethodName)) hown (mvT hZ (hw _ (List.mem_of_getElem? (i := 81) rfl))) (mvT hZ (hw _ (List.mem_of_getElem? (i := 82) rfl))) (notFace_of_selects (args := #[]) (mvT hZ (hw _ (List.mem_of_getElem? (i := 84) rfl)))) (mvT hZ (hw _ (List.mem_of_getElem? (i := 84) rfl))) (mvT hZ (hw _ (List.mem_of_getElem? (i := 83) rfl))) (by decide) (backOf (W := 0) (rm_g_location l Z a0 hw [] b5 lv T5.heap n0 f6 fq5_4 il) hZ (hw _ (List.mem_of_getElem? (i := 85) rfl)) (hw _ (List.mem_of_getElem? (i := 32) rfl)) (by decide) (by decide)) q10a q10c (g := (mkF m 179 #[.val (.int p0), .val (.int p1), .val (.int p2), .val (.int p3), .val (.int p4), .val (.ref va), .val (.ref vb), .val tv, .val lv, .val mv, .val (.ref b1), .val (.ref b5), .unset, .unset] [(.ref b5)])) rfl (by rw [hml]; rfl) (Steps.refl _) (argsL := []) (rest := []) (lenOf pd___Ljava_lang_String_ rfl) rfl (by show 2 * 0 + _ ≤ _; exact Nat.le_of_eq rfl) (hb hby at_179) (fun _ _ => ⟨rfl, eq9, (by decide : 10 + 0 ≤ _), (by decide : 32 + 0 ≤ _)⟩)
  dsimp only [Pt.U, Pt.locs, Pt.cells, Pt.slots] at X10 l10 y10 z10 st10 hQ10
  subst l10 y10 z10
  obtain ⟨rfl, Nq10, eq10⟩ := hQ10
  have N10 := Fr.app N9 Nq10
  refine own_st (T' := T10) (g' := (mkF m 182 #[.val (.int p0), .val (.int p1), .val (.int p2), .val (.int p3), .val (.int p4), .val (.ref va), .val (.ref vb), .val tv, .val lv, .val mv, .val (.ref b1), .val (.ref b5), .unset, .unset] [lv])) (fun t_ k_ => st10.trans k_) ?_
  refine own_st (T' := T10) (g' := (mkF m 184 #[.val (.int p0), .val (.int p1), .val (.int p2), .val (.int p3), .val (.int p4), .val (.ref va), .val (.ref vb), .val tv, .val lv, .val mv, .val (.ref b1), .val (.ref b5), .unset, .unset] [lv, lv])) (fun t_ k_ => XS.aload X10.here hx rfl (hb hby at_182) rfl il  k_) ?_
  refine own_st (T' := T10) (g' := (mkF m 187 #[.val (.int p0), .val (.int p1), .val (.int p2), .val (.int p3), .val (.int p4), .val (.ref va), .val (.ref vb), .val tv, .val lv, .val mv, .val (.ref b1), .val (.ref b5), .unset, .unset] [])) (fun t_ k_ => Jvm.RoadKit.acmp (g := (mkF m 184 #[.val (.int p0), .val (.int p1), .val (.int p2), .val (.int p3), .val (.int p4), .val (.ref va), .val (.ref vb), .val tv, .val lv, .val mv, .val (.ref b1), .val (.ref b5), .unset, .unset] [lv, lv])) X10 hx rfl il il (pc0 := 184) (pc' := 187) (same := true) rfl (hb hby at_184) rfl (decide_eq_true rfl) (by decide) (by decide) k_) ?_
  refine own_st (T' := T10) (g' := (mkF m 188 #[.val (.int p0), .val (.int p1), .val (.int p2), .val (.int p3), .val (.int p4), .val (.ref va), .val (.ref vb), .val tv, .val lv, .val mv, .val (.ref b1), .val (.ref b5), .unset, .unset] [(.int (1 : Int32))])) (fun t_ k_ => XS.iconst X10.here hx rfl (hb hby at_187) k_) ?_
  refine own_st (T' := T10) (g' := (mkF m 192 #[.val (.int p0), .val (.int p1), .val (.int p2), .val (.int p3), .val (.int p4), .val (.ref va), .val (.ref vb), .val tv, .val lv, .val mv, .val (.ref b1), .val (.ref b5), .unset, .unset] [(.int (1 : Int32))])) (fun t_ k_ => XS.goto X10.here hx rfl (pc0 := 188) (pc' := 192) rfl (hb hby at_188) (by decide) (by decide) k_) ?_
  refine own_st (T' := T10) (g' := (mkF m 194 #[.val (.int p0), .val (.int p1), .val (.int p2), .val (.int p3), .val (.int p4), .val (.ref va), .val (.ref vb), .val tv, .val lv, .val mv, .val (.ref b1), .val (.ref b5), .val (.int (1 : Int32)), .unset] [])) (fun t_ k_ => XS.istore X10.here hx rfl (hb hby at_192) rfl (l' := #[.val (.int p0), .val (.int p1), .val (.int p2), .val (.int p3), .val (.int p4), .val (.ref va), .val (.ref vb), .val tv, .val lv, .val mv, .val (.ref b1), .val (.ref b5), .val (.int (1 : Int32)), .unset]) rfl k_) ?_
  refine own_st (T' := T10) (g' := (mkF m 196 #[.val (.int p0), .val (.int p1), .val (.int p2), .val (.int p3), .val (.int p4), .val (.ref va), .val (.ref vb), .val tv, .val lv, .val mv, .val (.ref b1), .val (.ref b5), .val (.int (1 : Int32)), .unset] [(.ref b1)])) (fun t_ k_ => XS.aload X10.here hx rfl (hb hby at_194) rfl rfl  k_) ?_
  have f11 : Fld Z T5.heap b1 "com/example/ixora/ixora/web/Page" "status" "I" (.int p0) := fq3_1.keep K5 nin0
  have f13 : Exa Z T5.heap b1 "com/example/ixora/ixora/web/Page" := fq3_0.keep K5
  obtain ⟨cq12, kq12, q12a, q12b, q12c⟩ := isOf hZ eq10 f13
  obtain ⟨_, _, ⟨T12, L12, k12, n12⟩, -, X12, ⟨Lc12, hQ12, l12, y12, z12⟩, st12⟩ := X10.virtualBack hx (y := (⟨"com/example/ixora/ixora/web/Page", "status", "()I"⟩ : MethodName)) (z := (⟨"com/example/ixora/ixora/web/Page", "status", "()I"⟩ : MethodName)) hown (mvT hZ (hw _ (List.mem_of_getElem? (i := 71) rfl))) (mvT hZ (hw _ (List.mem_of_getElem? (i := 72) rfl))) (notFace_of_selects (args := #[]) (mvT hZ (hw _ (List.mem_of_getElem? (i := 74) rfl)))) (mvT hZ (hw _ (List.mem_of_getElem? (i := 74) rfl))) (mvT hZ (hw _ (List.mem_of_getElem? (i := 73) rfl))) (by decide) (backOf (W := 0) (rm_g_status l Z a0 hw [] b1 p0 T5.heap n0 f6 f11) hZ (hw _ (List.mem_of_getElem? (i := 75) rfl)) (hw _ (List.mem_of_getElem? (i := 32) rfl)) (by decide) (by decide)) q12a q12c (g := (mkF m 196 #[.val (.int p0), .val (.int p1), .val (.int p2), .val (.int p3), .val (.int p4), .val (.ref va), .val (.ref vb), .val tv, .val lv, .val mv, .val (.ref b1), .val (.ref b5), .val (.int (1 : Int32)), .unset] [(.ref b1)])) rfl (by rw [hml]; rfl) (Steps.refl _) (argsL := []) (rest := []) (lenOf pd___I rfl) rfl (by show 2 * 0 + _ ≤ _; exact Nat.le_of_eq rfl) (hb hby at_196) (fun _ _ => ⟨rfl, eq10, (by decide : 10 + 0 ≤ _), (by decide : 32 + 0 ≤ _)⟩)
  dsimp only [Pt.U, Pt.locs, Pt.cells, Pt.slots] at X12 l12 y12 z12 st12 hQ12
  subst l12 y12 z12
  obtain ⟨rfl, Nq12, eq12⟩ := hQ12
  have N12 := Fr.app N10 Nq12
  refine own_st (T' := T12) (g' := (mkF m 199 #[.val (.int p0), .val (.int p1), .val (.int p2), .val (.int p3), .val (.int p4), .val (.ref va), .val (.ref vb), .val tv, .val lv, .val mv, .val (.ref b1), .val (.ref b5), .val (.int (1 : Int32)), .unset] [(.int p0)])) (fun t_ k_ => st12.trans k_) ?_
  refine own_st (T' := T12) (g' := (mkF m 200 #[.val (.int p0), .val (.int p1), .val (.int p2), .val (.int p3), .val (.int p4), .val (.ref va), .val (.ref vb), .val tv, .val lv, .val mv, .val (.ref b1), .val (.ref b5), .val (.int (1 : Int32)), .unset] [(.int p0), (.int p0)])) (fun t_ k_ => XS.iloadN X12.here hx rfl (hb hby at_199) rfl  k_) ?_
  refine own_st (T' := T12) (g' := (mkF m 203 #[.val (.int p0), .val (.int p1), .val (.int p2), .val (.int p3), .val (.int p4), .val (.ref va), .val (.ref vb), .val tv, .val lv, .val mv, .val (.ref b1), .val (.ref b5), .val (.int (1 : Int32)), .unset] [])) (fun t_ k_ => XS.icmpNo X12.here hx rfl (hb hby at_200) rfl (teq (rfl : p0 = p0)).2 k_) ?_
  refine own_st (T' := T12) (g' := (mkF m 205 #[.val (.int p0), .val (.int p1), .val (.int p2), .val (.int p3), .val (.int p4), .val (.ref va), .val (.ref vb), .val tv, .val lv, .val mv, .val (.ref b1), .val (.ref b5), .val (.int (1 : Int32)), .unset] [(.ref b1)])) (fun t_ k_ => XS.aload X12.here hx rfl (hb hby at_203) rfl rfl  k_) ?_
  have f14 : Fld Z T5.heap b1 "com/example/ixora/ixora/web/Page" "template" "Ljava/lang/String;" tv := fq3_2.keep K5 nin0
  obtain ⟨cq15, kq15, q15a, q15b, q15c⟩ := isOf hZ eq12 f13
  obtain ⟨_, _, ⟨T15, L15, k15, n15⟩, -, X15, ⟨Lc15, hQ15, l15, y15, z15⟩, st15⟩ := X12.virtualBack hx (y := (⟨"com/example/ixora/ixora/web/Page", "template", "()Ljava/lang/String;"⟩ : MethodName)) (z := (⟨"com/example/ixora/ixora/web/Page", "template", "()Ljava/lang/String;"⟩ : MethodName)) hown (mvT hZ (hw _ (List.mem_of_getElem? (i := 76) rfl))) (mvT hZ (hw _ (List.mem_of_getElem? (i := 77) rfl))) (notFace_of_selects (args := #[]) (mvT hZ (hw _ (List.mem_of_getElem? (i := 79) rfl)))) (mvT hZ (hw _ (List.mem_of_getElem? (i := 79) rfl))) (mvT hZ (hw _ (List.mem_of_getElem? (i := 78) rfl))) (by decide) (backOf (W := 0) (rm_g_template l Z a0 hw [] b1 tv T5.heap n0 f6 f14 it) hZ (hw _ (List.mem_of_getElem? (i := 80) rfl)) (hw _ (List.mem_of_getElem? (i := 32) rfl)) (by decide) (by decide)) q15a q15c (g := (mkF m 205 #[.val (.int p0), .val (.int p1), .val (.int p2), .val (.int p3), .val (.int p4), .val (.ref va), .val (.ref vb), .val tv, .val lv, .val mv, .val (.ref b1), .val (.ref b5), .val (.int (1 : Int32)), .unset] [(.ref b1)])) rfl (by rw [hml]; rfl) (Steps.refl _) (argsL := []) (rest := []) (lenOf pd___Ljava_lang_String_ rfl) rfl (by show 2 * 0 + _ ≤ _; exact Nat.le_of_eq rfl) (hb hby at_205) (fun _ _ => ⟨rfl, eq12, (by decide : 10 + 0 ≤ _), (by decide : 32 + 0 ≤ _)⟩)
  dsimp only [Pt.U, Pt.locs, Pt.cells, Pt.slots] at X15 l15 y15 z15 st15 hQ15
  subst l15 y15 z15
  obtain ⟨rfl, Nq15, eq15⟩ := hQ15
  have N15 := Fr.app N12 Nq15
  refine own_st (T' := T15) (g' := (mkF m 208 #[.val (.int p0), .val (.int p1), .val (.int p2), .val (.int p3), .val (.int p4), .val (.ref va), .val (.ref vb), .val tv, .val lv, .val mv, .val (.ref b1), .val (.ref b5), .val (.int (1 : Int32)), .unset] [tv])) (fun t_ k_ => st15.trans k_) ?_
  refine own_st (T' := T15) (g' := (mkF m 210 #[.val (.int p0), .val (.int p1), .val (.int p2), .val (.int p3), .val (.int p4), .val (.ref va), .val (.ref vb), .val tv, .val lv, .val mv, .val (.ref b1), .val (.ref b5), .val (.int (1 : Int32)), .unset] [tv, tv])) (fun t_ k_ => XS.aload X15.here hx rfl (hb hby at_208) rfl it  k_) ?_
  refine own_st (T' := T15) (g' := (mkF m 213 #[.val (.int p0), .val (.int p1), .val (.int p2), .val (.int p3), .val (.int p4), .val (.ref va), .val (.ref vb), .val tv, .val lv, .val mv, .val (.ref b1), .val (.ref b5), .val (.int (1 : Int32)), .unset] [])) (fun t_ k_ => Jvm.RoadKit.acmp (g := (mkF m 210 #[.val (.int p0), .val (.int p1), .val (.int p2), .val (.int p3), .val (.int p4), .val (.ref va), .val (.ref vb), .val tv, .val lv, .val mv, .val (.ref b1), .val (.ref b5), .val (.int (1 : Int32)), .unset] [tv, tv])) X15 hx rfl it it (pc0 := 210) (pc' := 213) (same := true) rfl (hb hby at_210) rfl (decide_eq_true rfl) (by decide) (by decide) k_) ?_
  refine own_st (T' := T15) (g' := (mkF m 215 #[.val (.int p0), .val (.int p1), .val (.int p2), .val (.int p3), .val (.int p4), .val (.ref va), .val (.ref vb), .val tv, .val lv, .val mv, .val (.ref b1), .val (.ref b5), .val (.int (1 : Int32)), .unset] [(.ref b1)])) (fun t_ k_ => XS.aload X15.here hx rfl (hb hby at_213) rfl rfl  k_) ?_
  have f16 : Fld Z T5.heap b1 "com/example/ixora/ixora/web/Page" "model" "Ljava/util/Map;" mv := fq3_3.keep K5 nin0
  obtain ⟨cq17, kq17, q17a, q17b, q17c⟩ := isOf hZ eq15 f13
  obtain ⟨_, _, ⟨T17, L17, k17, n17⟩, -, X17, ⟨Lc17, hQ17, l17, y17, z17⟩, st17⟩ := X15.virtualBack hx (y := (⟨"com/example/ixora/ixora/web/Page", "model", "()Ljava/util/Map;"⟩ : MethodName)) (z := (⟨"com/example/ixora/ixora/web/Page", "model", "()Ljava/util/Map;"⟩ : MethodName)) hown (mvT hZ (hw _ (List.mem_of_getElem? (i := 59) rfl))) (mvT hZ (hw _ (List.mem_of_getElem? (i := 60) rfl))) (notFace_of_selects (args := #[]) (mvT hZ (hw _ (List.mem_of_getElem? (i := 62) rfl)))) (mvT hZ (hw _ (List.mem_of_getElem? (i := 62) rfl))) (mvT hZ (hw _ (List.mem_of_getElem? (i := 61) rfl))) (by decide) (backOf (W := 0) (rm_g_model l Z a0 hw [] b1 mv T5.heap n0 f6 f16 im) hZ (hw _ (List.mem_of_getElem? (i := 63) rfl)) (hw _ (List.mem_of_getElem? (i := 32) rfl)) (by decide) (by decide)) q17a q17c (g := (mkF m 215 #[.val (.int p0), .val (.int p1), .val (.int p2), .val (.int p3), .val (.int p4), .val (.ref va), .val (.ref vb), .val tv, .val lv, .val mv, .val (.ref b1), .val (.ref b5), .val (.int (1 : Int32)), .unset] [(.ref b1)])) rfl (by rw [hml]; rfl) (Steps.refl _) (argsL := []) (rest := []) (lenOf pd___Ljava_util_Map_ rfl) rfl (by show 2 * 0 + _ ≤ _; exact Nat.le_of_eq rfl) (hb hby at_215) (fun _ _ => ⟨rfl, eq15, (by decide : 10 + 0 ≤ _), (by decide : 32 + 0 ≤ _)⟩)
  dsimp only [Pt.U, Pt.locs, Pt.cells, Pt.slots] at X17 l17 y17 z17 st17 hQ17
  subst l17 y17 z17
  obtain ⟨rfl, Nq17, eq17⟩ := hQ17
  have N17 := Fr.app N15 Nq17
  refine own_st (T' := T17) (g' := (mkF m 218 #[.val (.int p0), .val (.int p1), .val (.int p2), .val (.int p3), .val (.int p4), .val (.ref va), .val (.ref vb), .val tv, .val lv, .val mv, .val (.ref b1), .val (.ref b5), .val (.int (1 : Int32)), .unset] [mv])) (fun t_ k_ => st17.trans k_) ?_
  refine own_st (T' := T17) (g' := (mkF m 220 #[.val (.int p0), .val (.int p1), .val (.int p2), .val (.int p3), .val (.int p4), .val (.ref va), .val (.ref vb), .val tv, .val lv, .val mv, .val (.ref b1), .val (.ref b5), .val (.int (1 : Int32)), .unset] [mv, mv])) (fun t_ k_ => XS.aload X17.here hx rfl (hb hby at_218) rfl im  k_) ?_
  refine own_st (T' := T17) (g' := (mkF m 223 #[.val (.int p0), .val (.int p1), .val (.int p2), .val (.int p3), .val (.int p4), .val (.ref va), .val (.ref vb), .val tv, .val lv, .val mv, .val (.ref b1), .val (.ref b5), .val (.int (1 : Int32)), .unset] [])) (fun t_ k_ => Jvm.RoadKit.acmp (g := (mkF m 220 #[.val (.int p0), .val (.int p1), .val (.int p2), .val (.int p3), .val (.int p4), .val (.ref va), .val (.ref vb), .val tv, .val lv, .val mv, .val (.ref b1), .val (.ref b5), .val (.int (1 : Int32)), .unset] [mv, mv])) X17 hx rfl im im (pc0 := 220) (pc' := 223) (same := true) rfl (hb hby at_220) rfl (decide_eq_true rfl) (by decide) (by decide) k_) ?_
  refine own_st (T' := T17) (g' := (mkF m 225 #[.val (.int p0), .val (.int p1), .val (.int p2), .val (.int p3), .val (.int p4), .val (.ref va), .val (.ref vb), .val tv, .val lv, .val mv, .val (.ref b1), .val (.ref b5), .val (.int (1 : Int32)), .unset] [(.ref b1)])) (fun t_ k_ => XS.aload X17.here hx rfl (hb hby at_223) rfl rfl  k_) ?_
  have f18 : Fld Z T5.heap b1 "com/example/ixora/ixora/web/Page" "location" "Ljava/lang/String;" lv := fq3_4.keep K5 nin0
  obtain ⟨cq19, kq19, q19a, q19b, q19c⟩ := isOf hZ eq17 f13
  obtain ⟨_, _, ⟨T19, L19, k19, n19⟩, -, X19, ⟨Lc19, hQ19, l19, y19, z19⟩, st19⟩ := X17.virtualBack hx (y := (⟨"com/example/ixora/ixora/web/Page", "location", "()Ljava/lang/String;"⟩ : MethodName)) (z := (⟨"com/example/ixora/ixora/web/Page", "location", "()Ljava/lang/String;"⟩ : MethodName)) hown (mvT hZ (hw _ (List.mem_of_getElem? (i := 81) rfl))) (mvT hZ (hw _ (List.mem_of_getElem? (i := 82) rfl))) (notFace_of_selects (args := #[]) (mvT hZ (hw _ (List.mem_of_getElem? (i := 84) rfl)))) (mvT hZ (hw _ (List.mem_of_getElem? (i := 84) rfl))) (mvT hZ (hw _ (List.mem_of_getElem? (i := 83) rfl))) (by decide) (backOf (W := 0) (rm_g_location l Z a0 hw [] b1 lv T5.heap n0 f6 f18 il) hZ (hw _ (List.mem_of_getElem? (i := 85) rfl)) (hw _ (List.mem_of_getElem? (i := 32) rfl)) (by decide) (by decide)) q19a q19c (g := (mkF m 225 #[.val (.int p0), .val (.int p1), .val (.int p2), .val (.int p3), .val (.int p4), .val (.ref va), .val (.ref vb), .val tv, .val lv, .val mv, .val (.ref b1), .val (.ref b5), .val (.int (1 : Int32)), .unset] [(.ref b1)])) rfl (by rw [hml]; rfl) (Steps.refl _) (argsL := []) (rest := []) (lenOf pd___Ljava_lang_String_ rfl) rfl (by show 2 * 0 + _ ≤ _; exact Nat.le_of_eq rfl) (hb hby at_225) (fun _ _ => ⟨rfl, eq17, (by decide : 10 + 0 ≤ _), (by decide : 32 + 0 ≤ _)⟩)
  dsimp only [Pt.U, Pt.locs, Pt.cells, Pt.slots] at X19 l19 y19 z19 st19 hQ19
  subst l19 y19 z19
  obtain ⟨rfl, Nq19, eq19⟩ := hQ19
  have N19 := Fr.app N17 Nq19
  refine own_st (T' := T19) (g' := (mkF m 228 #[.val (.int p0), .val (.int p1), .val (.int p2), .val (.int p3), .val (.int p4), .val (.ref va), .val (.ref vb), .val tv, .val lv, .val mv, .val (.ref b1), .val (.ref b5), .val (.int (1 : Int32)), .unset] [lv])) (fun t_ k_ => st19.trans k_) ?_
  refine own_st (T' := T19) (g' := (mkF m 230 #[.val (.int p0), .val (.int p1), .val (.int p2), .val (.int p3), .val (.int p4), .val (.ref va), .val (.ref vb), .val tv, .val lv, .val mv, .val (.ref b1), .val (.ref b5), .val (.int (1 : Int32)), .unset] [lv, lv])) (fun t_ k_ => XS.aload X19.here hx rfl (hb hby at_228) rfl il  k_) ?_
  refine own_st (T' := T19) (g' := (mkF m 233 #[.val (.int p0), .val (.int p1), .val (.int p2), .val (.int p3), .val (.int p4), .val (.ref va), .val (.ref vb), .val tv, .val lv, .val mv, .val (.ref b1), .val (.ref b5), .val (.int (1 : Int32)), .unset] [])) (fun t_ k_ => Jvm.RoadKit.acmp (g := (mkF m 230 #[.val (.int p0), .val (.int p1), .val (.int p2), .val (.int p3), .val (.int p4), .val (.ref va), .val (.ref vb), .val tv, .val lv, .val mv, .val (.ref b1), .val (.ref b5), .val (.int (1 : Int32)), .unset] [lv, lv])) X19 hx rfl il il (pc0 := 230) (pc' := 233) (same := true) rfl (hb hby at_230) rfl (decide_eq_true rfl) (by decide) (by decide) k_) ?_
  refine own_st (T' := T19) (g' := (mkF m 234 #[.val (.int p0), .val (.int p1), .val (.int p2), .val (.int p3), .val (.int p4), .val (.ref va), .val (.ref vb), .val tv, .val lv, .val mv, .val (.ref b1), .val (.ref b5), .val (.int (1 : Int32)), .unset] [(.int (1 : Int32))])) (fun t_ k_ => XS.iconst X19.here hx rfl (hb hby at_233) k_) ?_
  refine own_st (T' := T19) (g' := (mkF m 238 #[.val (.int p0), .val (.int p1), .val (.int p2), .val (.int p3), .val (.int p4), .val (.ref va), .val (.ref vb), .val tv, .val lv, .val mv, .val (.ref b1), .val (.ref b5), .val (.int (1 : Int32)), .unset] [(.int (1 : Int32))])) (fun t_ k_ => XS.goto X19.here hx rfl (pc0 := 234) (pc' := 238) rfl (hb hby at_234) (by decide) (by decide) k_) ?_
  refine own_st (T' := T19) (g' := (mkF m 240 #[.val (.int p0), .val (.int p1), .val (.int p2), .val (.int p3), .val (.int p4), .val (.ref va), .val (.ref vb), .val tv, .val lv, .val mv, .val (.ref b1), .val (.ref b5), .val (.int (1 : Int32)), .val (.int (1 : Int32))] [])) (fun t_ k_ => XS.istore X19.here hx rfl (hb hby at_238) rfl (l' := #[.val (.int p0), .val (.int p1), .val (.int p2), .val (.int p3), .val (.int p4), .val (.ref va), .val (.ref vb), .val tv, .val lv, .val mv, .val (.ref b1), .val (.ref b5), .val (.int (1 : Int32)), .val (.int (1 : Int32))]) rfl k_) ?_
  refine own_st (T' := T19) (g' := (mkF m 242 #[.val (.int p0), .val (.int p1), .val (.int p2), .val (.int p3), .val (.int p4), .val (.ref va), .val (.ref vb), .val tv, .val lv, .val mv, .val (.ref b1), .val (.ref b5), .val (.int (1 : Int32)), .val (.int (1 : Int32))] [(.int (1 : Int32))])) (fun t_ k_ => XS.iload X19.here hx rfl (hb hby at_240) rfl  k_) ?_
  refine own_st (T' := T19) (g' := (mkF m 245 #[.val (.int p0), .val (.int p1), .val (.int p2), .val (.int p3), .val (.int p4), .val (.ref va), .val (.ref vb), .val tv, .val lv, .val mv, .val (.ref b1), .val (.ref b5), .val (.int (1 : Int32)), .val (.int (1 : Int32))] [])) (fun t_ k_ => XS.ifNo X19.here hx rfl (hb hby at_242) rfl ((if0 _ _).trans (feq (by decide : ¬ ((1 : Int32) = (0 : Int32)))).1) k_) ?_
  refine own_st (T' := T19) (g' := (mkF m 247 #[.val (.int p0), .val (.int p1), .val (.int p2), .val (.int p3), .val (.int p4), .val (.ref va), .val (.ref vb), .val tv, .val lv, .val mv, .val (.ref b1), .val (.ref b5), .val (.int (1 : Int32)), .val (.int (1 : Int32))] [(.int (1 : Int32))])) (fun t_ k_ => XS.iload X19.here hx rfl (hb hby at_245) rfl  k_) ?_
  refine own_st (T' := T19) (g' := (mkF m 250 #[.val (.int p0), .val (.int p1), .val (.int p2), .val (.int p3), .val (.int p4), .val (.ref va), .val (.ref vb), .val tv, .val lv, .val mv, .val (.ref b1), .val (.ref b5), .val (.int (1 : Int32)), .val (.int (1 : Int32))] [])) (fun t_ k_ => XS.ifNo X19.here hx rfl (hb hby at_247) rfl ((if0 _ _).trans (feq (by decide : ¬ ((1 : Int32) = (0 : Int32)))).1) k_) ?_
  refine own_st (T' := T19) (g' := (mkF m 251 #[.val (.int p0), .val (.int p1), .val (.int p2), .val (.int p3), .val (.int p4), .val (.ref va), .val (.ref vb), .val tv, .val lv, .val mv, .val (.ref b1), .val (.ref b5), .val (.int (1 : Int32)), .val (.int (1 : Int32))] [(.int (1 : Int32))])) (fun t_ k_ => XS.iconst X19.here hx rfl (hb hby at_250) k_) ?_
  refine own_st (T' := T19) (g' := (mkF m 255 #[.val (.int p0), .val (.int p1), .val (.int p2), .val (.int p3), .val (.int p4), .val (.ref va), .val (.ref vb), .val tv, .val lv, .val mv, .val (.ref b1), .val (.ref b5), .val (.int (1 : Int32)), .val (.int (1 : Int32))] [(.int (1 : Int32))])) (fun t_ k_ => XS.goto X19.here hx rfl (pc0 := 251) (pc' := 255) rfl (hb hby at_251) (by decide) (by decide) k_) ?_
  exact own_retN X19 hx (t := .boolean) hret (by simp) hlk (hb hby at_255) (by decide) (by decide) ⟨rfl, N19⟩
theorem pd___C_V : parseMethodDescriptor "([C)V" = some ⟨[(.array .char)], none⟩ := by decide +kernel
theorem pd__Ljava_lang_String__Lcom_example_ixora_ixora_web_Page_ : parseMethodDescriptor "(Ljava/lang/String;)Lcom/example/ixora/ixora/web/Page;" = some ⟨[(.object "java/lang/String")], some (.object "com/example/ixora/ixora/web/Page")⟩ := by decide +kernel
theorem pn_5 : plainName "com/example/ixora/ixora/web/PageWithStatusPinLaw" = true := by first | (simp [plainName, overriddenIn]; done) | decide +kernel
theorem ef_0 (m : MethodId) (x0 : Int32) (x1 : Int32) (x2 : Int32) (x3 : Int32) (x4 : Int32) : entryFrame m #[(.int x0), (.int x1), (.int x2), (.int x3), (.int x4)] maxLocals = mkF m 0 #[.val (.int x0), .val (.int x1), .val (.int x2), .val (.int x3), .val (.int x4), .unset, .unset, .unset, .unset, .unset, .unset, .unset, .unset, .unset] [] := by first | (simp [entryFrame, mkF, argsToLocals, Value.category, maxLocals]; done) | rfl
set_option maxRecDepth 65536 in
set_option maxHeartbeats 40000000 in
theorem rm_0 (l : Launch) (Z : State) (a0 : Array Value) (hw : ∀ d ∈ tables_1, d.before a0 Z = true) (ws : List Jvm.Cond) (p0 : Int32) (p1 : Int32) (p2 : Int32) (p3 : Int32) (p4 : Int32) (cz : Int32) (wm : Addr) (h0 : Heap) (n0 : Nat) (O0 : Old Z n0 h0) (SC : Sta Z Z.heap "java/lang/String" "COMPACT_STRINGS" "Z" (.int cz)) (hcz : ¬ cz = (0 : Int32)) (SM : Sta Z Z.heap "java/util/ImmutableCollections" "EMPTY_MAP" "Ljava/util/ImmutableCollections$MapN;" (.ref wm)) :
    MetFree l x (head1 (Jvm.Cond.code x code maxLocals ret :: ws) room_1) (fun ar_ U => ar_ = #[(.int p0), (.int p1), (.int p2), (.int p3), (.int p4)] ∧ Z.Warmed39 U.vm ∧ U.heap = h0) (fun _ _ _ _ _ => True) (fun _ U o U' => ∃ v L, o = .returned v ∧ own_L n0 v U'.heap L ∧ FrameEnd U o U' L room_1.cells room_1.slots) := by
  refine MetFree.of_bodySF (plainFor_of_name pn_5) hisR ?_
  intro p e s m args below meth c s₁ Bd hml0 hP hK
  obtain ⟨rfl, hZ, hh⟩ := hP
  have hx := Bd.exec
  have hby := Bd.bytes
  have hml : c.maxLocals = 14 := hml0
  have hown : s.vm.findClass "com/example/ixora/ixora/web/PageWithStatusPinLaw" = some m.cls := findClass_of_methodNamed Bd.named
  have hnm := (name_of_methodNamed Bd.named Bd.method).1
  have X0 : Stand p l e room_1 s m #[(.int p0), (.int p1), (.int p2), (.int p3), (.int p4)] below meth c s₁ [] 0 0 := Stand.of_body Bd
  have e0 : s₁.heap = h0 := by rw [← hh, Bd.state]; rfl
  have N0 := Fr.nil n0
  have hret := Bd.returns
  have hlk : meth.locks = false := Bd.notSynchronized
  show own_E p e below s room_1.cells room_1.slots (own_L n0) s₁ (entryFrame m #[(.int p0), (.int p1), (.int p2), (.int p3), (.int p4)] maxLocals)
  rw [ef_0 m p0 p1 p2 p3 p4]
  refine own_st (T' := s₁) (g' := (mkF m 1 #[.val (.int p0), .val (.int p1), .val (.int p2), .val (.int p3), .val (.int p4), .unset, .unset, .unset, .unset, .unset, .unset, .unset, .unset, .unset] [(.int (2 : Int32))])) (fun t_ k_ => XS.iconst X0.here hx rfl (hb hby at_0) k_) ?_
  obtain ⟨T1, h1, k1, X1, e1, E1, A1, st1⟩ := newP X0 hx hZ (hw _ (List.mem_of_getElem? (i := 0) rfl)) e0 (g := (mkF m 1 #[.val (.int p0), .val (.int p1), .val (.int p2), .val (.int p3), .val (.int p4), .unset, .unset, .unset, .unset, .unset, .unset, .unset, .unset, .unset] [(.int (2 : Int32))])) rfl (hb hby at_1) rfl (by decide) (cap := 2) (by decide) (by decide) (by decide) (by decide)
  obtain ⟨b1, g1⟩ : ∃ z, z = h0.size := ⟨_, rfl⟩
  rw [← g1] at A1 st1
  have fr1 : n0 ≤ b1 := Nat.le_trans (own_z O0) (Nat.le_of_eq g1.symm)
  have V1 : Arv Z h1 b1 k1 .char (2 : Int32) [(.int (0 : Int32)), (.int (0 : Int32))] (.int (0 : Int32)) := (Arv.new A1 (by decide)).pad (pad_rep [] (.int (0 : Int32)) 2)
  refine own_st (T' := T1) (g' := (mkF m 3 #[.val (.int p0), .val (.int p1), .val (.int p2), .val (.int p3), .val (.int p4), .unset, .unset, .unset, .unset, .unset, .unset, .unset, .unset, .unset] [(.ref b1)])) st1 ?_
  refine own_st (T' := T1) (g' := (mkF m 4 #[.val (.int p0), .val (.int p1), .val (.int p2), .val (.int p3), .val (.int p4), .unset, .unset, .unset, .unset, .unset, .unset, .unset, .unset, .unset] [(.ref b1), (.ref b1)])) (fun t_ k_ => XS.dup X1.here hx rfl (hb hby at_3) rfl rfl k_) ?_
  refine own_st (T' := T1) (g' := (mkF m 5 #[.val (.int p0), .val (.int p1), .val (.int p2), .val (.int p3), .val (.int p4), .unset, .unset, .unset, .unset, .unset, .unset, .unset, .unset, .unset] [(.int (0 : Int32)), (.ref b1), (.ref b1)])) (fun t_ k_ => XS.iconst X1.here hx rfl (hb hby at_4) k_) ?_
  refine own_st (T' := T1) (g' := (mkF m 6 #[.val (.int p0), .val (.int p1), .val (.int p2), .val (.int p3), .val (.int p4), .unset, .unset, .unset, .unset, .unset, .unset, .unset, .unset, .unset] [(.int p2), (.int (0 : Int32)), (.ref b1), (.ref b1)])) (fun t_ k_ => XS.iloadN X1.here hx rfl (hb hby at_5) rfl  k_) ?_
  refine own_st (T' := T1) (g' := (mkF m 9 #[.val (.int p0), .val (.int p1), .val (.int p2), .val (.int p3), .val (.int p4), .unset, .unset, .unset, .unset, .unset, .unset, .unset, .unset, .unset] [(.int (255 : Int32)), (.int p2), (.int (0 : Int32)), (.ref b1), (.ref b1)])) (fun t_ k_ => XS.sipush X1.here hx rfl (hb hby at_6) k_) ?_
  refine own_st (T' := T1) (g' := (mkF m 10 #[.val (.int p0), .val (.int p1), .val (.int p2), .val (.int p3), .val (.int p4), .unset, .unset, .unset, .unset, .unset, .unset, .unset, .unset, .unset] [(.int (p2 &&& (255 : Int32))), (.int (0 : Int32)), (.ref b1), (.ref b1)])) (fun t_ k_ => XS.iand X1.here hx rfl (hb hby at_9) rfl k_) ?_
  refine own_st (T' := T1) (g' := (mkF m 11 #[.val (.int p0), .val (.int p1), .val (.int p2), .val (.int p3), .val (.int p4), .unset, .unset, .unset, .unset, .unset, .unset, .unset, .unset, .unset] [(.int ((p2 &&& (255 : Int32)).toUInt32.toUInt16.toUInt32.toInt32)), (.int (0 : Int32)), (.ref b1), (.ref b1)])) (fun t_ k_ => XS.i2c X1.here hx rfl (hb hby at_10) rfl k_) ?_
  obtain ⟨cl2, Ar2, q2, S2, N2, H2, G2⟩ := id V1
  have hin2 : ¬ ((0 : Int32) < 0 ∨ cl2.slots.size ≤ ((0 : Int32)).toNatClampNeg) := inb_of S2 ⟨by decide, by decide⟩
  obtain ⟨T3, h3, X3, e3, W3, st3⟩ := stC X1 hx hZ e1 Ar2 (j := (0 : Int32)) hin2 (g := (mkF m 11 #[.val (.int p0), .val (.int p1), .val (.int p2), .val (.int p3), .val (.int p4), .unset, .unset, .unset, .unset, .unset, .unset, .unset, .unset, .unset] [(.int ((p2 &&& (255 : Int32)).toUInt32.toUInt16.toUInt32.toInt32)), (.int (0 : Int32)), (.ref b1), (.ref b1)])) rfl rfl (hb hby at_11)
  have V3 : Arv Z h3 b1 k1 .char (2 : Int32) [(.int (nar .char ((p2 &&& (255 : Int32)).toUInt32.toUInt16.toUInt32.toInt32))), (.int (0 : Int32))] (.int (0 : Int32)) := Arv.set Ar2 q2 S2 N2 H2 G2 (fits_nar_char _) W3 0 rfl (Nat.le_of_ble_eq_true rfl)
  have Nx3 := Fr.snoc X3 N0 fr1
  refine own_st (T' := T3) (g' := (mkF m 12 #[.val (.int p0), .val (.int p1), .val (.int p2), .val (.int p3), .val (.int p4), .unset, .unset, .unset, .unset, .unset, .unset, .unset, .unset, .unset] [(.ref b1)])) st3 ?_
  refine own_st (T' := T3) (g' := (mkF m 13 #[.val (.int p0), .val (.int p1), .val (.int p2), .val (.int p3), .val (.int p4), .unset, .unset, .unset, .unset, .unset, .unset, .unset, .unset, .unset] [(.ref b1), (.ref b1)])) (fun t_ k_ => XS.dup X3.here hx rfl (hb hby at_12) rfl rfl k_) ?_
  refine own_st (T' := T3) (g' := (mkF m 14 #[.val (.int p0), .val (.int p1), .val (.int p2), .val (.int p3), .val (.int p4), .unset, .unset, .unset, .unset, .unset, .unset, .unset, .unset, .unset] [(.int (1 : Int32)), (.ref b1), (.ref b1)])) (fun t_ k_ => XS.iconst X3.here hx rfl (hb hby at_13) k_) ?_
  refine own_st (T' := T3) (g' := (mkF m 15 #[.val (.int p0), .val (.int p1), .val (.int p2), .val (.int p3), .val (.int p4), .unset, .unset, .unset, .unset, .unset, .unset, .unset, .unset, .unset] [(.int p2), (.int (1 : Int32)), (.ref b1), (.ref b1)])) (fun t_ k_ => XS.iloadN X3.here hx rfl (hb hby at_14) rfl  k_) ?_
  refine own_st (T' := T3) (g' := (mkF m 17 #[.val (.int p0), .val (.int p1), .val (.int p2), .val (.int p3), .val (.int p4), .unset, .unset, .unset, .unset, .unset, .unset, .unset, .unset, .unset] [(.int (8 : Int32)), (.int p2), (.int (1 : Int32)), (.ref b1), (.ref b1)])) (fun t_ k_ => XS.bipush X3.here hx rfl (hb hby at_15) k_) ?_
  refine own_st (T' := T3) (g' := (mkF m 18 #[.val (.int p0), .val (.int p1), .val (.int p2), .val (.int p3), .val (.int p4), .unset, .unset, .unset, .unset, .unset, .unset, .unset, .unset, .unset] [(.int ((p2.toUInt32 >>> ((8 : Int32) &&& 31).toUInt32).toInt32)), (.int (1 : Int32)), (.ref b1), (.ref b1)])) (fun t_ k_ => XS.iushr X3.here hx rfl (hb hby at_17) rfl k_) ?_
  refine own_st (T' := T3) (g' := (mkF m 21 #[.val (.int p0), .val (.int p1), .val (.int p2), .val (.int p3), .val (.int p4), .unset, .unset, .unset, .unset, .unset, .unset, .unset, .unset, .unset] [(.int (255 : Int32)), (.int ((p2.toUInt32 >>> ((8 : Int32) &&& 31).toUInt32).toInt32)), (.int (1 : Int32)), (.ref b1), (.ref b1)])) (fun t_ k_ => XS.sipush X3.here hx rfl (hb hby at_18) k_) ?_
  refine own_st (T' := T3) (g' := (mkF m 22 #[.val (.int p0), .val (.int p1), .val (.int p2), .val (.int p3), .val (.int p4), .unset, .unset, .unset, .unset, .unset, .unset, .unset, .unset, .unset] [(.int (((p2.toUInt32 >>> ((8 : Int32) &&& 31).toUInt32).toInt32) &&& (255 : Int32))), (.int (1 : Int32)), (.ref b1), (.ref b1)])) (fun t_ k_ => XS.iand X3.here hx rfl (hb hby at_21) rfl k_) ?_
  refine own_st (T' := T3) (g' := (mkF m 23 #[.val (.int p0), .val (.int p1), .val (.int p2), .val (.int p3), .val (.int p4), .unset, .unset, .unset, .unset, .unset, .unset, .unset, .unset, .unset] [(.int ((((p2.toUInt32 >>> ((8 : Int32) &&& 31).toUInt32).toInt32) &&& (255 : Int32)).toUInt32.toUInt16.toUInt32.toInt32)), (.int (1 : Int32)), (.ref b1), (.ref b1)])) (fun t_ k_ => XS.i2c X3.here hx rfl (hb hby at_22) rfl k_) ?_
  obtain ⟨cl4, Ar4, q4, S4, N4, H4, G4⟩ := id V3
  have hin4 : ¬ ((1 : Int32) < 0 ∨ cl4.slots.size ≤ ((1 : Int32)).toNatClampNeg) := inb_of S4 ⟨by decide, by decide⟩
  obtain ⟨T5, h5, X5, e5, W5, st5⟩ := stC X3 hx hZ e3 Ar4 (j := (1 : Int32)) hin4 (g := (mkF m 23 #[.val (.int p0), .val (.int p1), .val (.int p2), .val (.int p3), .val (.int p4), .unset, .unset, .unset, .unset, .unset, .unset, .unset, .unset, .unset] [(.int ((((p2.toUInt32 >>> ((8 : Int32) &&& 31).toUInt32).toInt32) &&& (255 : Int32)).toUInt32.toUInt16.toUInt32.toInt32)), (.int (1 : Int32)), (.ref b1), (.ref b1)])) rfl rfl (hb hby at_23)
  have V5 : Arv Z h5 b1 k1 .char (2 : Int32) [(.int (nar .char ((p2 &&& (255 : Int32)).toUInt32.toUInt16.toUInt32.toInt32))), (.int (nar .char ((((p2.toUInt32 >>> ((8 : Int32) &&& 31).toUInt32).toInt32) &&& (255 : Int32)).toUInt32.toUInt16.toUInt32.toInt32)))] (.int (0 : Int32)) := Arv.set Ar4 q4 S4 N4 H4 G4 (fits_nar_char _) W5 1 rfl (Nat.le_of_ble_eq_true rfl)
  have Nx5 := Fr.snoc X5 Nx3 fr1
  refine own_st (T' := T5) (g' := (mkF m 24 #[.val (.int p0), .val (.int p1), .val (.int p2), .val (.int p3), .val (.int p4), .unset, .unset, .unset, .unset, .unset, .unset, .unset, .unset, .unset] [(.ref b1)])) st5 ?_
  refine own_st (T' := T5) (g' := (mkF m 26 #[.val (.int p0), .val (.int p1), .val (.int p2), .val (.int p3), .val (.int p4), .val (.ref b1), .unset, .unset, .unset, .unset, .unset, .unset, .unset, .unset] [])) (fun t_ k_ => XS.astore X5.here hx rfl (hb hby at_24) rfl rfl (l' := #[.val (.int p0), .val (.int p1), .val (.int p2), .val (.int p3), .val (.int p4), .val (.ref b1), .unset, .unset, .unset, .unset, .unset, .unset, .unset, .unset]) rfl k_) ?_
  refine own_st (T' := T5) (g' := (mkF m 27 #[.val (.int p0), .val (.int p1), .val (.int p2), .val (.int p3), .val (.int p4), .val (.ref b1), .unset, .unset, .unset, .unset, .unset, .unset, .unset, .unset] [(.int (2 : Int32))])) (fun t_ k_ => XS.iconst X5.here hx rfl (hb hby at_26) k_) ?_
  have f6 : Old Z n0 h1 := O0.ext E1
  have f7 : Old Z n0 h3 := f6.wr W3 fr1
  have f8 : Old Z n0 h5 := f7.wr W5 fr1
  obtain ⟨T9, h9, k9, X9, e9, E9, A9, st9⟩ := newP X5 hx hZ (hw _ (List.mem_of_getElem? (i := 0) rfl)) e5 (g := (mkF m 27 #[.val (.int p0), .val (.int p1), .val (.int p2), .val (.int p3), .val (.int p4), .val (.ref b1), .unset, .unset, .unset, .unset, .unset, .unset, .unset, .unset] [(.int (2 : Int32))])) rfl (hb hby at_27) rfl (by decide) (cap := 2) (by decide) (by decide) (by decide) (by decide)
  obtain ⟨b9, g9⟩ : ∃ z, z = h5.size := ⟨_, rfl⟩
  rw [← g9] at A9 st9
  have fr9 : n0 ≤ b9 := Nat.le_trans (own_z f8) (Nat.le_of_eq g9.symm)
  have V9 : Arv Z h9 b9 k9 .char (2 : Int32) [(.int (0 : Int32)), (.int (0 : Int32))] (.int (0 : Int32)) := (Arv.new A9 (by decide)).pad (pad_rep [] (.int (0 : Int32)) 2)
  refine own_st (T' := T9) (g' := (mkF m 29 #[.val (.int p0), .val (.int p1), .val (.int p2), .val (.int p3), .val (.int p4), .val (.ref b1), .unset, .unset, .unset, .unset, .unset, .unset, .unset, .unset] [(.ref b9)])) st9 ?_
  refine own_st (T' := T9) (g' := (mkF m 30 #[.val (.int p0), .val (.int p1), .val (.int p2), .val (.int p3), .val (.int p4), .val (.ref b1), .unset, .unset, .unset, .unset, .unset, .unset, .unset, .unset] [(.ref b9), (.ref b9)])) (fun t_ k_ => XS.dup X9.here hx rfl (hb hby at_29) rfl rfl k_) ?_
  refine own_st (T' := T9) (g' := (mkF m 31 #[.val (.int p0), .val (.int p1), .val (.int p2), .val (.int p3), .val (.int p4), .val (.ref b1), .unset, .unset, .unset, .unset, .unset, .unset, .unset, .unset] [(.int (0 : Int32)), (.ref b9), (.ref b9)])) (fun t_ k_ => XS.iconst X9.here hx rfl (hb hby at_30) k_) ?_
  refine own_st (T' := T9) (g' := (mkF m 32 #[.val (.int p0), .val (.int p1), .val (.int p2), .val (.int p3), .val (.int p4), .val (.ref b1), .unset, .unset, .unset, .unset, .unset, .unset, .unset, .unset] [(.int p3), (.int (0 : Int32)), (.ref b9), (.ref b9)])) (fun t_ k_ => XS.iloadN X9.here hx rfl (hb hby at_31) rfl  k_) ?_
  refine own_st (T' := T9) (g' := (mkF m 35 #[.val (.int p0), .val (.int p1), .val (.int p2), .val (.int p3), .val (.int p4), .val (.ref b1), .unset, .unset, .unset, .unset, .unset, .unset, .unset, .unset] [(.int (255 : Int32)), (.int p3), (.int (0 : Int32)), (.ref b9), (.ref b9)])) (fun t_ k_ => XS.sipush X9.here hx rfl (hb hby at_32) k_) ?_
  refine own_st (T' := T9) (g' := (mkF m 36 #[.val (.int p0), .val (.int p1), .val (.int p2), .val (.int p3), .val (.int p4), .val (.ref b1), .unset, .unset, .unset, .unset, .unset, .unset, .unset, .unset] [(.int (p3 &&& (255 : Int32))), (.int (0 : Int32)), (.ref b9), (.ref b9)])) (fun t_ k_ => XS.iand X9.here hx rfl (hb hby at_35) rfl k_) ?_
  refine own_st (T' := T9) (g' := (mkF m 37 #[.val (.int p0), .val (.int p1), .val (.int p2), .val (.int p3), .val (.int p4), .val (.ref b1), .unset, .unset, .unset, .unset, .unset, .unset, .unset, .unset] [(.int ((p3 &&& (255 : Int32)).toUInt32.toUInt16.toUInt32.toInt32)), (.int (0 : Int32)), (.ref b9), (.ref b9)])) (fun t_ k_ => XS.i2c X9.here hx rfl (hb hby at_36) rfl k_) ?_
  obtain ⟨cl10, Ar10, q10, S10, N10, H10, G10⟩ := id V9
  have hin10 : ¬ ((0 : Int32) < 0 ∨ cl10.slots.size ≤ ((0 : Int32)).toNatClampNeg) := inb_of S10 ⟨by decide, by decide⟩
  obtain ⟨T11, h11, X11, e11, W11, st11⟩ := stC X9 hx hZ e9 Ar10 (j := (0 : Int32)) hin10 (g := (mkF m 37 #[.val (.int p0), .val (.int p1), .val (.int p2), .val (.int p3), .val (.int p4), .val (.ref b1), .unset, .unset, .unset, .unset, .unset, .unset, .unset, .unset] [(.int ((p3 &&& (255 : Int32)).toUInt32.toUInt16.toUInt32.toInt32)), (.int (0 : Int32)), (.ref b9), (.ref b9)])) rfl rfl (hb hby at_37)
  have V11 : Arv Z h11 b9 k9 .char (2 : Int32) [(.int (nar .char ((p3 &&& (255 : Int32)).toUInt32.toUInt16.toUInt32.toInt32))), (.int (0 : Int32))] (.int (0 : Int32)) := Arv.set Ar10 q10 S10 N10 H10 G10 (fits_nar_char _) W11 0 rfl (Nat.le_of_ble_eq_true rfl)
  have Nx11 := Fr.snoc X11 Nx5 fr9
  refine own_st (T' := T11) (g' := (mkF m 38 #[.val (.int p0), .val (.int p1), .val (.int p2), .val (.int p3), .val (.int p4), .val (.ref b1), .unset, .unset, .unset, .unset, .unset, .unset, .unset, .unset] [(.ref b9)])) st11 ?_
  refine own_st (T' := T11) (g' := (mkF m 39 #[.val (.int p0), .val (.int p1), .val (.int p2), .val (.int p3), .val (.int p4), .val (.ref b1), .unset, .unset, .unset, .unset, .unset, .unset, .unset, .unset] [(.ref b9), (.ref b9)])) (fun t_ k_ => XS.dup X11.here hx rfl (hb hby at_38) rfl rfl k_) ?_
  refine own_st (T' := T11) (g' := (mkF m 40 #[.val (.int p0), .val (.int p1), .val (.int p2), .val (.int p3), .val (.int p4), .val (.ref b1), .unset, .unset, .unset, .unset, .unset, .unset, .unset, .unset] [(.int (1 : Int32)), (.ref b9), (.ref b9)])) (fun t_ k_ => XS.iconst X11.here hx rfl (hb hby at_39) k_) ?_
  refine own_st (T' := T11) (g' := (mkF m 41 #[.val (.int p0), .val (.int p1), .val (.int p2), .val (.int p3), .val (.int p4), .val (.ref b1), .unset, .unset, .unset, .unset, .unset, .unset, .unset, .unset] [(.int p3), (.int (1 : Int32)), (.ref b9), (.ref b9)])) (fun t_ k_ => XS.iloadN X11.here hx rfl (hb hby at_40) rfl  k_) ?_
  refine own_st (T' := T11) (g' := (mkF m 43 #[.val (.int p0), .val (.int p1), .val (.int p2), .val (.int p3), .val (.int p4), .val (.ref b1), .unset, .unset, .unset, .unset, .unset, .unset, .unset, .unset] [(.int (8 : Int32)), (.int p3), (.int (1 : Int32)), (.ref b9), (.ref b9)])) (fun t_ k_ => XS.bipush X11.here hx rfl (hb hby at_41) k_) ?_
  refine own_st (T' := T11) (g' := (mkF m 44 #[.val (.int p0), .val (.int p1), .val (.int p2), .val (.int p3), .val (.int p4), .val (.ref b1), .unset, .unset, .unset, .unset, .unset, .unset, .unset, .unset] [(.int ((p3.toUInt32 >>> ((8 : Int32) &&& 31).toUInt32).toInt32)), (.int (1 : Int32)), (.ref b9), (.ref b9)])) (fun t_ k_ => XS.iushr X11.here hx rfl (hb hby at_43) rfl k_) ?_
  refine own_st (T' := T11) (g' := (mkF m 47 #[.val (.int p0), .val (.int p1), .val (.int p2), .val (.int p3), .val (.int p4), .val (.ref b1), .unset, .unset, .unset, .unset, .unset, .unset, .unset, .unset] [(.int (255 : Int32)), (.int ((p3.toUInt32 >>> ((8 : Int32) &&& 31).toUInt32).toInt32)), (.int (1 : Int32)), (.ref b9), (.ref b9)])) (fun t_ k_ => XS.sipush X11.here hx rfl (hb hby at_44) k_) ?_
  refine own_st (T' := T11) (g' := (mkF m 48 #[.val (.int p0), .val (.int p1), .val (.int p2), .val (.int p3), .val (.int p4), .val (.ref b1), .unset, .unset, .unset, .unset, .unset, .unset, .unset, .unset] [(.int (((p3.toUInt32 >>> ((8 : Int32) &&& 31).toUInt32).toInt32) &&& (255 : Int32))), (.int (1 : Int32)), (.ref b9), (.ref b9)])) (fun t_ k_ => XS.iand X11.here hx rfl (hb hby at_47) rfl k_) ?_
  refine own_st (T' := T11) (g' := (mkF m 49 #[.val (.int p0), .val (.int p1), .val (.int p2), .val (.int p3), .val (.int p4), .val (.ref b1), .unset, .unset, .unset, .unset, .unset, .unset, .unset, .unset] [(.int ((((p3.toUInt32 >>> ((8 : Int32) &&& 31).toUInt32).toInt32) &&& (255 : Int32)).toUInt32.toUInt16.toUInt32.toInt32)), (.int (1 : Int32)), (.ref b9), (.ref b9)])) (fun t_ k_ => XS.i2c X11.here hx rfl (hb hby at_48) rfl k_) ?_
  obtain ⟨cl12, Ar12, q12, S12, N12, H12, G12⟩ := id V11
  have hin12 : ¬ ((1 : Int32) < 0 ∨ cl12.slots.size ≤ ((1 : Int32)).toNatClampNeg) := inb_of S12 ⟨by decide, by decide⟩
  obtain ⟨T13, h13, X13, e13, W13, st13⟩ := stC X11 hx hZ e11 Ar12 (j := (1 : Int32)) hin12 (g := (mkF m 49 #[.val (.int p0), .val (.int p1), .val (.int p2), .val (.int p3), .val (.int p4), .val (.ref b1), .unset, .unset, .unset, .unset, .unset, .unset, .unset, .unset] [(.int ((((p3.toUInt32 >>> ((8 : Int32) &&& 31).toUInt32).toInt32) &&& (255 : Int32)).toUInt32.toUInt16.toUInt32.toInt32)), (.int (1 : Int32)), (.ref b9), (.ref b9)])) rfl rfl (hb hby at_49)
  have V13 : Arv Z h13 b9 k9 .char (2 : Int32) [(.int (nar .char ((p3 &&& (255 : Int32)).toUInt32.toUInt16.toUInt32.toInt32))), (.int (nar .char ((((p3.toUInt32 >>> ((8 : Int32) &&& 31).toUInt32).toInt32) &&& (255 : Int32)).toUInt32.toUInt16.toUInt32.toInt32)))] (.int (0 : Int32)) := Arv.set Ar12 q12 S12 N12 H12 G12 (fits_nar_char _) W13 1 rfl (Nat.le_of_ble_eq_true rfl)
  have Nx13 := Fr.snoc X13 Nx11 fr9
  refine own_st (T' := T13) (g' := (mkF m 50 #[.val (.int p0), .val (.int p1), .val (.int p2), .val (.int p3), .val (.int p4), .val (.ref b1), .unset, .unset, .unset, .unset, .unset, .unset, .unset, .unset] [(.ref b9)])) st13 ?_
  refine own_st (T' := T13) (g' := (mkF m 52 #[.val (.int p0), .val (.int p1), .val (.int p2), .val (.int p3), .val (.int p4), .val (.ref b1), .val (.ref b9), .unset, .unset, .unset, .unset, .unset, .unset, .unset] [])) (fun t_ k_ => XS.astore X13.here hx rfl (hb hby at_50) rfl rfl (l' := #[.val (.int p0), .val (.int p1), .val (.int p2), .val (.int p3), .val (.int p4), .val (.ref b1), .val (.ref b9), .unset, .unset, .unset, .unset, .unset, .unset, .unset]) rfl k_) ?_
  refine own_st (T' := T13) (g' := (mkF m 54 #[.val (.int p0), .val (.int p1), .val (.int p2), .val (.int p3), .val (.int p4), .val (.ref b1), .val (.ref b9), .unset, .unset, .unset, .unset, .unset, .unset, .unset] [(.int p4)])) (fun t_ k_ => XS.iload X13.here hx rfl (hb hby at_52) rfl  k_) ?_
  refine own_st (T' := T13) (g' := (mkF m 55 #[.val (.int p0), .val (.int p1), .val (.int p2), .val (.int p3), .val (.int p4), .val (.ref b1), .val (.ref b9), .unset, .unset, .unset, .unset, .unset, .unset, .unset] [(.int (1 : Int32)), (.int p4)])) (fun t_ k_ => XS.iconst X13.here hx rfl (hb hby at_54) k_) ?_
  refine own_st (T' := T13) (g' := (mkF m 56 #[.val (.int p0), .val (.int p1), .val (.int p2), .val (.int p3), .val (.int p4), .val (.ref b1), .val (.ref b9), .unset, .unset, .unset, .unset, .unset, .unset, .unset] [(.int (p4 &&& (1 : Int32)))])) (fun t_ k_ => XS.iand X13.here hx rfl (hb hby at_55) rfl k_) ?_
  by_cases hc14 : (p4 &&& (1 : Int32)) = (0 : Int32)
  · refine own_st (T' := T13) (g' := (mkF m 63 #[.val (.int p0), .val (.int p1), .val (.int p2), .val (.int p3), .val (.int p4), .val (.ref b1), .val (.ref b9), .unset, .unset, .unset, .unset, .unset, .unset, .unset] [])) (fun t_ k_ => XS.ifYes X13.here hx rfl (pc0 := 56) (pc' := 63) rfl (hb hby at_56) rfl ((if0 _ _).trans (teq hc14).1) (by decide) (by decide) k_) ?_
    have f15 : Old Z n0 h9 := f8.ext E9
    have f16 : Old Z n0 h11 := f15.wr W11 fr9
    have f17 : Old Z n0 h13 := f16.wr W13 fr9
    obtain ⟨T18, h18, X18, e18, E18, A18, D18, -, st18⟩ := newO X13 hx hZ hown (hw _ (List.mem_of_getElem? (i := 1) rfl)) (hw _ (List.mem_of_getElem? (i := 2) rfl)) (hw _ (List.mem_of_getElem? (i := 3) rfl)) e13 (g := (mkF m 63 #[.val (.int p0), .val (.int p1), .val (.int p2), .val (.int p3), .val (.int p4), .val (.ref b1), .val (.ref b9), .unset, .unset, .unset, .unset, .unset, .unset, .unset] [])) rfl (hb hby at_63) (by decide) (by decide)
    obtain ⟨b18, g18⟩ : ∃ z, z = h13.size := ⟨_, rfl⟩
    rw [← g18] at A18 D18 st18
    have fr18 : n0 ≤ b18 := Nat.le_trans (own_z f17) (Nat.le_of_eq g18.symm)
    have F18_coder : Fld Z h18 b18 "java/lang/String" "coder" "B" (.int (0 : Int32)) := D18 (Or.inr (hw _ (List.mem_of_getElem? (i := 27) rfl))) (ty := .byte) (by decide)
    have F18_value : Fld Z h18 b18 "java/lang/String" "value" "[B" .null := D18 (Or.inr (hw _ (List.mem_of_getElem? (i := 29) rfl))) (ty := (.array .byte)) (by decide)
    refine own_st (T' := T18) (g' := (mkF m 66 #[.val (.int p0), .val (.int p1), .val (.int p2), .val (.int p3), .val (.int p4), .val (.ref b1), .val (.ref b9), .unset, .unset, .unset, .unset, .unset, .unset, .unset] [(.ref b18)])) st18 ?_
    refine own_st (T' := T18) (g' := (mkF m 67 #[.val (.int p0), .val (.int p1), .val (.int p2), .val (.int p3), .val (.int p4), .val (.ref b1), .val (.ref b9), .unset, .unset, .unset, .unset, .unset, .unset, .unset] [(.ref b18), (.ref b18)])) (fun t_ k_ => XS.dup X18.here hx rfl (hb hby at_66) rfl rfl k_) ?_
    refine own_st (T' := T18) (g' := (mkF m 69 #[.val (.int p0), .val (.int p1), .val (.int p2), .val (.int p3), .val (.int p4), .val (.ref b1), .val (.ref b9), .unset, .unset, .unset, .unset, .unset, .unset, .unset] [(.ref b1), (.ref b18), (.ref b18)])) (fun t_ k_ => XS.aload X18.here hx rfl (hb hby at_67) rfl rfl  k_) ?_
    have f19 : Arv Z h9 b1 k1 .char (2 : Int32) [(.int (nar .char ((p2 &&& (255 : Int32)).toUInt32.toUInt16.toUInt32.toInt32))), (.int (nar .char ((((p2.toUInt32 >>> ((8 : Int32) &&& 31).toUInt32).toInt32) &&& (255 : Int32)).toUInt32.toUInt16.toUInt32.toInt32)))] (.int (0 : Int32)) := V5.ext E9
    have ne20 : b1 ≠ b9 := Nat.ne_of_lt (Nat.lt_of_lt_of_le (Nat.lt_of_lt_of_le (Nat.lt_of_lt_of_le V1.lt (Nat.le_of_eq (Wr.size W3).symm)) (Nat.le_of_eq (Wr.size W5).symm)) (Nat.le_of_eq g9.symm))
    have f21 : Arv Z h11 b1 k1 .char (2 : Int32) [(.int (nar .char ((p2 &&& (255 : Int32)).toUInt32.toUInt16.toUInt32.toInt32))), (.int (nar .char ((((p2.toUInt32 >>> ((8 : Int32) &&& 31).toUInt32).toInt32) &&& (255 : Int32)).toUInt32.toUInt16.toUInt32.toInt32)))] (.int (0 : Int32)) := f19.other W11 ne20
    have f22 : Arv Z h13 b1 k1 .char (2 : Int32) [(.int (nar .char ((p2 &&& (255 : Int32)).toUInt32.toUInt16.toUInt32.toInt32))), (.int (nar .char ((((p2.toUInt32 >>> ((8 : Int32) &&& 31).toUInt32).toInt32) &&& (255 : Int32)).toUInt32.toUInt16.toUInt32.toInt32)))] (.int (0 : Int32)) := f21.other W13 ne20
    have f23 : Arv Z h18 b1 k1 .char (2 : Int32) [(.int (nar .char ((p2 &&& (255 : Int32)).toUInt32.toUInt16.toUInt32.toInt32))), (.int (nar .char ((((p2.toUInt32 >>> ((8 : Int32) &&& 31).toUInt32).toInt32) &&& (255 : Int32)).toUInt32.toUInt16.toUInt32.toInt32)))] (.int (0 : Int32)) := f22.ext E18
    have f24 : Old Z n0 h18 := f17.ext E18
    obtain ⟨_, _, ⟨T25, L25, k25, n25⟩, -, X25, ⟨Lc25, hQ25, l25, y25, z25⟩, st25⟩ := X18.specialBack hx (y := (⟨"java/lang/String", "<init>", "([C)V"⟩ : MethodName)) rfl hown (mvT hZ (hw _ (List.mem_of_getElem? (i := 4) rfl))) (mvT hZ (hw _ (List.mem_of_getElem? (i := 5) rfl))) (mvT hZ (hw _ (List.mem_of_getElem? (i := 6) rfl))) (by decide) (backOf (W := 1) (rm_ini1_2 l Z a0 hw [] b18 b1 k1 cz (nar .char ((p2 &&& (255 : Int32)).toUInt32.toUInt16.toUInt32.toInt32)) (nar .char ((((p2.toUInt32 >>> ((8 : Int32) &&& 31).toUInt32).toInt32) &&& (255 : Int32)).toUInt32.toUInt16.toUInt32.toInt32)) h18 n0 f24 A18 F18_value F18_coder fr18 f23 SC hcz (by first | exact own_c255 _ | decide) (by first | exact own_c255 _ | decide)) hZ (hw _ (List.mem_of_getElem? (i := 6) rfl)) (hw _ (List.mem_of_getElem? (i := 3) rfl)) (by decide) (by decide)) (g := (mkF m 69 #[.val (.int p0), .val (.int p1), .val (.int p2), .val (.int p3), .val (.int p4), .val (.ref b1), .val (.ref b9), .unset, .unset, .unset, .unset, .unset, .unset, .unset] [(.ref b1), (.ref b18), (.ref b18)])) rfl (by rw [hml]; rfl) (Steps.refl _) (a := b18) (argsL := [(.ref b1)]) (rest := [(.ref b18)]) (lenOf pd___C_V rfl) rfl (by show 2 * 0 + _ ≤ _; exact Nat.le_of_eq rfl) (hb hby at_69) (fun _ _ => ⟨rfl, e18, (by decide : 3 + 1 ≤ _), (by decide : 8 + 2 ≤ _)⟩)
    dsimp only [Pt.U, Pt.locs, Pt.cells, Pt.slots] at X25 l25 y25 z25 st25 hQ25
    subst l25 y25 z25
    obtain ⟨t25, kb25, rfl, Nq25, K25, fq25_0, fq25_1, fq25_2, fq25_3, xq25_fresh_t⟩ := hQ25
    have N25 := Fr.app Nx13 Nq25
    refine own_st (T' := T25) (g' := (mkF m 72 #[.val (.int p0), .val (.int p1), .val (.int p2), .val (.int p3), .val (.int p4), .val (.ref b1), .val (.ref b9), .unset, .unset, .unset, .unset, .unset, .unset, .unset] [(.ref b18)])) (fun t_ k_ => st25.trans k_) ?_
    refine own_st (T' := T25) (g' := (mkF m 74 #[.val (.int p0), .val (.int p1), .val (.int p2), .val (.int p3), .val (.int p4), .val (.ref b1), .val (.ref b9), .val (.ref b18), .unset, .unset, .unset, .unset, .unset, .unset] [])) (fun t_ k_ => XS.astore X25.here hx rfl (hb hby at_72) rfl rfl (l' := #[.val (.int p0), .val (.int p1), .val (.int p2), .val (.int p3), .val (.int p4), .val (.ref b1), .val (.ref b9), .val (.ref b18), .unset, .unset, .unset, .unset, .unset, .unset]) rfl k_) ?_
    refine own_st (T' := T25) (g' := (mkF m 76 #[.val (.int p0), .val (.int p1), .val (.int p2), .val (.int p3), .val (.int p4), .val (.ref b1), .val (.ref b9), .val (.ref b18), .unset, .unset, .unset, .unset, .unset, .unset] [(.int p4)])) (fun t_ k_ => XS.iload X25.here hx rfl (hb hby at_74) rfl  k_) ?_
    refine own_st (T' := T25) (g' := (mkF m 77 #[.val (.int p0), .val (.int p1), .val (.int p2), .val (.int p3), .val (.int p4), .val (.ref b1), .val (.ref b9), .val (.ref b18), .unset, .unset, .unset, .unset, .unset, .unset] [(.int (2 : Int32)), (.int p4)])) (fun t_ k_ => XS.iconst X25.here hx rfl (hb hby at_76) k_) ?_
    refine own_st (T' := T25) (g' := (mkF m 78 #[.val (.int p0), .val (.int p1), .val (.int p2), .val (.int p3), .val (.int p4), .val (.ref b1), .val (.ref b9), .val (.ref b18), .unset, .unset, .unset, .unset, .unset, .unset] [(.int (p4 &&& (2 : Int32)))])) (fun t_ k_ => XS.iand X25.here hx rfl (hb hby at_77) rfl k_) ?_
    by_cases hc26 : (p4 &&& (2 : Int32)) = (0 : Int32)
    · refine own_st (T' := T25) (g' := (mkF m 85 #[.val (.int p0), .val (.int p1), .val (.int p2), .val (.int p3), .val (.int p4), .val (.ref b1), .val (.ref b9), .val (.ref b18), .unset, .unset, .unset, .unset, .unset, .unset] [])) (fun t_ k_ => XS.ifYes X25.here hx rfl (pc0 := 78) (pc' := 85) rfl (hb hby at_78) rfl ((if0 _ _).trans (teq hc26).1) (by decide) (by decide) k_) ?_
      have f27 : Old Z n0 T25.heap := f24.keep K25 (allS fr18 all0)
      obtain ⟨T28, h28, X28, e28, E28, A28, D28, -, st28⟩ := newO X25 hx hZ hown (hw _ (List.mem_of_getElem? (i := 1) rfl)) (hw _ (List.mem_of_getElem? (i := 2) rfl)) (hw _ (List.mem_of_getElem? (i := 3) rfl)) rfl (g := (mkF m 85 #[.val (.int p0), .val (.int p1), .val (.int p2), .val (.int p3), .val (.int p4), .val (.ref b1), .val (.ref b9), .val (.ref b18), .unset, .unset, .unset, .unset, .unset, .unset] [])) rfl (hb hby at_85) (by decide) (by decide)
      obtain ⟨b28, g28⟩ : ∃ z, z = T25.heap.size := ⟨_, rfl⟩
      rw [← g28] at A28 D28 st28
      have fr28 : n0 ≤ b28 := Nat.le_trans (own_z f27) (Nat.le_of_eq g28.symm)
      have F28_coder : Fld Z h28 b28 "java/lang/String" "coder" "B" (.int (0 : Int32)) := D28 (Or.inr (hw _ (List.mem_of_getElem? (i := 27) rfl))) (ty := .byte) (by decide)
      have F28_value : Fld Z h28 b28 "java/lang/String" "value" "[B" .null := D28 (Or.inr (hw _ (List.mem_of_getElem? (i := 29) rfl))) (ty := (.array .byte)) (by decide)
      refine own_st (T' := T28) (g' := (mkF m 88 #[.val (.int p0), .val (.int p1), .val (.int p2), .val (.int p3), .val (.int p4), .val (.ref b1), .val (.ref b9), .val (.ref b18), .unset, .unset, .unset, .unset, .unset, .unset] [(.ref b28)])) st28 ?_
      refine own_st (T' := T28) (g' := (mkF m 89 #[.val (.int p0), .val (.int p1), .val (.int p2), .val (.int p3), .val (.int p4), .val (.ref b1), .val (.ref b9), .val (.ref b18), .unset, .unset, .unset, .unset, .unset, .unset] [(.ref b28), (.ref b28)])) (fun t_ k_ => XS.dup X28.here hx rfl (hb hby at_88) rfl rfl k_) ?_
      refine own_st (T' := T28) (g' := (mkF m 91 #[.val (.int p0), .val (.int p1), .val (.int p2), .val (.int p3), .val (.int p4), .val (.ref b1), .val (.ref b9), .val (.ref b18), .unset, .unset, .unset, .unset, .unset, .unset] [(.ref b9), (.ref b28), (.ref b28)])) (fun t_ k_ => XS.aload X28.here hx rfl (hb hby at_89) rfl rfl  k_) ?_
      have f29 : Arv Z h18 b9 k9 .char (2 : Int32) [(.int (nar .char ((p3 &&& (255 : Int32)).toUInt32.toUInt16.toUInt32.toInt32))), (.int (nar .char ((((p3.toUInt32 >>> ((8 : Int32) &&& 31).toUInt32).toInt32) &&& (255 : Int32)).toUInt32.toUInt16.toUInt32.toInt32)))] (.int (0 : Int32)) := V13.ext E18
      have ne30 : b9 ≠ b18 := Nat.ne_of_lt (Nat.lt_of_lt_of_le (Nat.lt_of_lt_of_le (Nat.lt_of_lt_of_le V9.lt (Nat.le_of_eq (Wr.size W11).symm)) (Nat.le_of_eq (Wr.size W13).symm)) (Nat.le_of_eq g18.symm))
      have f31 : Arv Z T25.heap b9 k9 .char (2 : Int32) [(.int (nar .char ((p3 &&& (255 : Int32)).toUInt32.toUInt16.toUInt32.toInt32))), (.int (nar .char ((((p3.toUInt32 >>> ((8 : Int32) &&& 31).toUInt32).toInt32) &&& (255 : Int32)).toUInt32.toUInt16.toUInt32.toInt32)))] (.int (0 : Int32)) := f29.keep K25 (ninS ne30 nin0)
      have f32 : Arv Z h28 b9 k9 .char (2 : Int32) [(.int (nar .char ((p3 &&& (255 : Int32)).toUInt32.toUInt16.toUInt32.toInt32))), (.int (nar .char ((((p3.toUInt32 >>> ((8 : Int32) &&& 31).toUInt32).toInt32) &&& (255 : Int32)).toUInt32.toUInt16.toUInt32.toInt32)))] (.int (0 : Int32)) := f31.ext E28
      have f33 : Old Z n0 h28 := f27.ext E28
      obtain ⟨_, _, ⟨T34, L34, k34, n34⟩, -, X34, ⟨Lc34, hQ34, l34, y34, z34⟩, st34⟩ := X28.specialBack hx (y := (⟨"java/lang/String", "<init>", "([C)V"⟩ : MethodName)) rfl hown (mvT hZ (hw _ (List.mem_of_getElem? (i := 4) rfl))) (mvT hZ (hw _ (List.mem_of_getElem? (i := 5) rfl))) (mvT hZ (hw _ (List.mem_of_getElem? (i := 6) rfl))) (by decide) (backOf (W := 1) (rm_ini1_2 l Z a0 hw [] b28 b9 k9 cz (nar .char ((p3 &&& (255 : Int32)).toUInt32.toUInt16.toUInt32.toInt32)) (nar .char ((((p3.toUInt32 >>> ((8 : Int32) &&& 31).toUInt32).toInt32) &&& (255 : Int32)).toUInt32.toUInt16.toUInt32.toInt32)) h28 n0 f33 A28 F28_value F28_coder fr28 f32 SC hcz (by first | exact own_c255 _ | decide) (by first | exact own_c255 _ | decide)) hZ (hw _ (List.mem_of_getElem? (i := 6) rfl)) (hw _ (List.mem_of_getElem? (i := 3) rfl)) (by decide) (by decide)) (g := (mkF m 91 #[.val (.int p0), .val (.int p1), .val (.int p2), .val (.int p3), .val (.int p4), .val (.ref b1), .val (.ref b9), .val (.ref b18), .unset, .unset, .unset, .unset, .unset, .unset] [(.ref b9), (.ref b28), (.ref b28)])) rfl (by rw [hml]; rfl) (Steps.refl _) (a := b28) (argsL := [(.ref b9)]) (rest := [(.ref b28)]) (lenOf pd___C_V rfl) rfl (by show 2 * 0 + _ ≤ _; exact Nat.le_of_eq rfl) (hb hby at_91) (fun _ _ => ⟨rfl, e28, (by decide : 5 + 1 ≤ _), (by decide : 14 + 2 ≤ _)⟩)
      dsimp only [Pt.U, Pt.locs, Pt.cells, Pt.slots] at X34 l34 y34 z34 st34 hQ34
      subst l34 y34 z34
      obtain ⟨t34, kb34, rfl, Nq34, K34, fq34_0, fq34_1, fq34_2, fq34_3, xq34_fresh_t⟩ := hQ34
      have N34 := Fr.app N25 Nq34
      refine own_st (T' := T34) (g' := (mkF m 94 #[.val (.int p0), .val (.int p1), .val (.int p2), .val (.int p3), .val (.int p4), .val (.ref b1), .val (.ref b9), .val (.ref b18), .unset, .unset, .unset, .unset, .unset, .unset] [(.ref b28)])) (fun t_ k_ => st34.trans k_) ?_
      refine own_st (T' := T34) (g' := (mkF m 96 #[.val (.int p0), .val (.int p1), .val (.int p2), .val (.int p3), .val (.int p4), .val (.ref b1), .val (.ref b9), .val (.ref b18), .val (.ref b28), .unset, .unset, .unset, .unset, .unset] [])) (fun t_ k_ => XS.astore X34.here hx rfl (hb hby at_94) rfl rfl (l' := #[.val (.int p0), .val (.int p1), .val (.int p2), .val (.int p3), .val (.int p4), .val (.ref b1), .val (.ref b9), .val (.ref b18), .val (.ref b28), .unset, .unset, .unset, .unset, .unset]) rfl k_) ?_
      refine own_st (T' := T34) (g' := (mkF m 98 #[.val (.int p0), .val (.int p1), .val (.int p2), .val (.int p3), .val (.int p4), .val (.ref b1), .val (.ref b9), .val (.ref b18), .val (.ref b28), .unset, .unset, .unset, .unset, .unset] [(.int p4)])) (fun t_ k_ => XS.iload X34.here hx rfl (hb hby at_96) rfl  k_) ?_
      refine own_st (T' := T34) (g' := (mkF m 99 #[.val (.int p0), .val (.int p1), .val (.int p2), .val (.int p3), .val (.int p4), .val (.ref b1), .val (.ref b9), .val (.ref b18), .val (.ref b28), .unset, .unset, .unset, .unset, .unset] [(.int (4 : Int32)), (.int p4)])) (fun t_ k_ => XS.iconst X34.here hx rfl (hb hby at_98) k_) ?_
      refine own_st (T' := T34) (g' := (mkF m 100 #[.val (.int p0), .val (.int p1), .val (.int p2), .val (.int p3), .val (.int p4), .val (.ref b1), .val (.ref b9), .val (.ref b18), .val (.ref b28), .unset, .unset, .unset, .unset, .unset] [(.int (p4 &&& (4 : Int32)))])) (fun t_ k_ => XS.iand X34.here hx rfl (hb hby at_99) rfl k_) ?_
      by_cases hc35 : (p4 &&& (4 : Int32)) = (0 : Int32)
      · refine own_st (T' := T34) (g' := (mkF m 107 #[.val (.int p0), .val (.int p1), .val (.int p2), .val (.int p3), .val (.int p4), .val (.ref b1), .val (.ref b9), .val (.ref b18), .val (.ref b28), .unset, .unset, .unset, .unset, .unset] [])) (fun t_ k_ => XS.ifYes X34.here hx rfl (pc0 := 100) (pc' := 107) rfl (hb hby at_100) rfl ((if0 _ _).trans (teq hc35).1) (by decide) (by decide) k_) ?_
        refine own_st (T' := T34) (g' := (mkF m 109 #[.val (.int p0), .val (.int p1), .val (.int p2), .val (.int p3), .val (.int p4), .val (.ref b1), .val (.ref b9), .val (.ref b18), .val (.ref b28), .unset, .unset, .unset, .unset, .unset] [(.ref b28)])) (fun t_ k_ => XS.aload X34.here hx rfl (hb hby at_107) rfl rfl  k_) ?_
        have f36 : Old Z n0 T34.heap := f33.keep K34 (allS fr28 all0)
        obtain ⟨_, _, ⟨T37, L37, k37, n37⟩, -, X37, ⟨Lc37, hQ37, l37, y37, z37⟩, st37⟩ := Jvm.LawKit.callS X34 hx (y := (⟨"com/example/ixora/ixora/web/Page", "seeOther", "(Ljava/lang/String;)Lcom/example/ixora/ixora/web/Page;"⟩ : MethodName)) hown (mvT hZ (hw _ (List.mem_of_getElem? (i := 30) rfl))) (mvT hZ (hw _ (List.mem_of_getElem? (i := 31) rfl))) (mvT hZ (hw _ (List.mem_of_getElem? (i := 32) rfl))) (mvT hZ (hw _ (List.mem_of_getElem? (i := 33) rfl))) (by decide) (backOf (W := 0) (rm_see l Z a0 hw [] (.ref b28) wm T34.heap n0 f36 SM rfl) hZ (hw _ (List.mem_of_getElem? (i := 33) rfl)) (hw _ (List.mem_of_getElem? (i := 32) rfl)) (by decide) (by decide)) (g := (mkF m 109 #[.val (.int p0), .val (.int p1), .val (.int p2), .val (.int p3), .val (.int p4), .val (.ref b1), .val (.ref b9), .val (.ref b18), .val (.ref b28), .unset, .unset, .unset, .unset, .unset] [(.ref b28)])) rfl (by rw [hml]; rfl) (argsL := [(.ref b28)]) (rest := []) (lenOf pd__Ljava_lang_String__Lcom_example_ixora_ixora_web_Page_ rfl) rfl (by show 2 * 0 + _ ≤ _; exact Nat.le_of_eq rfl) (hb hby at_109) (fun _ _ => ⟨rfl, rfl, (by decide : 6 + 1 ≤ _), (by decide : 16 + 4 ≤ _)⟩)
        dsimp only [Pt.U, Pt.locs, Pt.cells, Pt.slots] at X37 l37 y37 z37 st37 hQ37
        subst l37 y37 z37
        obtain ⟨b37, rfl, Nq37, K37, fq37_0, fq37_1, fq37_2, fq37_3, fq37_4, xq37_fresh_b⟩ := hQ37
        have N37 := Fr.app N34 Nq37
        refine own_st (T' := T37) (g' := (mkF m 112 #[.val (.int p0), .val (.int p1), .val (.int p2), .val (.int p3), .val (.int p4), .val (.ref b1), .val (.ref b9), .val (.ref b18), .val (.ref b28), .unset, .unset, .unset, .unset, .unset] [(.ref b37)])) st37 ?_
        have f38 : Old Z n0 T37.heap := f36.keep K37 all0
        obtain ⟨cq39, kq39, q39a, q39b, q39c⟩ := isOf hZ rfl fq37_0
        obtain ⟨_, _, ⟨T39, L39, k39, n39⟩, -, X39, ⟨Lc39, hQ39, l39, y39, z39⟩, st39⟩ := X37.virtualBack hx (y := (⟨"com/example/ixora/ixora/web/Page", "model", "()Ljava/util/Map;"⟩ : MethodName)) (z := (⟨"com/example/ixora/ixora/web/Page", "model", "()Ljava/util/Map;"⟩ : MethodName)) hown (mvT hZ (hw _ (List.mem_of_getElem? (i := 59) rfl))) (mvT hZ (hw _ (List.mem_of_getElem? (i := 60) rfl))) (notFace_of_selects (args := #[]) (mvT hZ (hw _ (List.mem_of_getElem? (i := 62) rfl)))) (mvT hZ (hw _ (List.mem_of_getElem? (i := 62) rfl))) (mvT hZ (hw _ (List.mem_of_getElem? (i := 61) rfl))) (by decide) (backOf (W := 0) (rm_g_model l Z a0 hw [] b37 (.ref wm) T37.heap n0 f38 fq37_3 rfl) hZ (hw _ (List.mem_of_getElem? (i := 63) rfl)) (hw _ (List.mem_of_getElem? (i := 32) rfl)) (by decide) (by decide)) q39a q39c (g := (mkF m 112 #[.val (.int p0), .val (.int p1), .val (.int p2), .val (.int p3), .val (.int p4), .val (.ref b1), .val (.ref b9), .val (.ref b18), .val (.ref b28), .unset, .unset, .unset, .unset, .unset] [(.ref b37)])) rfl (by rw [hml]; rfl) (Steps.refl _) (argsL := []) (rest := []) (lenOf pd___Ljava_util_Map_ rfl) rfl (by show 2 * 0 + _ ≤ _; exact Nat.le_of_eq rfl) (hb hby at_112) (fun _ _ => ⟨rfl, rfl, (by decide : 7 + 0 ≤ _), (by decide : 20 + 0 ≤ _)⟩)
        dsimp only [Pt.U, Pt.locs, Pt.cells, Pt.slots] at X39 l39 y39 z39 st39 hQ39
        subst l39 y39 z39
        obtain ⟨rfl, Nq39, eq39⟩ := hQ39
        have N39 := Fr.app N37 Nq39
        refine own_st (T' := T39) (g' := (mkF m 115 #[.val (.int p0), .val (.int p1), .val (.int p2), .val (.int p3), .val (.int p4), .val (.ref b1), .val (.ref b9), .val (.ref b18), .val (.ref b28), .unset, .unset, .unset, .unset, .unset] [(.ref wm)])) (fun t_ k_ => st39.trans k_) ?_
        refine own_st (T' := T39) (g' := (mkF m 117 #[.val (.int p0), .val (.int p1), .val (.int p2), .val (.int p3), .val (.int p4), .val (.ref b1), .val (.ref b9), .val (.ref b18), .val (.ref b28), .val (.ref wm), .unset, .unset, .unset, .unset] [])) (fun t_ k_ => XS.astore X39.here hx rfl (hb hby at_115) rfl rfl (l' := #[.val (.int p0), .val (.int p1), .val (.int p2), .val (.int p3), .val (.int p4), .val (.ref b1), .val (.ref b9), .val (.ref b18), .val (.ref b28), .val (.ref wm), .unset, .unset, .unset, .unset]) rfl k_) ?_
        exact seg_p117 h0 T37.heap n0 p0 p1 p2 p3 p4 b1 b9 (.ref b18) (.ref wm) (.ref b28) (X39.mono (by decide) (by decide)) hx hZ hw hby hml hown hnm hret hlk eq39 N39 f38 rfl rfl rfl
      · refine own_st (T' := T34) (g' := (mkF m 103 #[.val (.int p0), .val (.int p1), .val (.int p2), .val (.int p3), .val (.int p4), .val (.ref b1), .val (.ref b9), .val (.ref b18), .val (.ref b28), .unset, .unset, .unset, .unset, .unset] [])) (fun t_ k_ => XS.ifNo X34.here hx rfl (hb hby at_100) rfl ((if0 _ _).trans (feq hc35).1) k_) ?_
        refine own_st (T' := T34) (g' := (mkF m 104 #[.val (.int p0), .val (.int p1), .val (.int p2), .val (.int p3), .val (.int p4), .val (.ref b1), .val (.ref b9), .val (.ref b18), .val (.ref b28), .unset, .unset, .unset, .unset, .unset] [.null])) (fun t_ k_ => XS.aconstNull X34.here hx rfl (hb hby at_103) k_) ?_
        refine own_st (T' := T34) (g' := (mkF m 115 #[.val (.int p0), .val (.int p1), .val (.int p2), .val (.int p3), .val (.int p4), .val (.ref b1), .val (.ref b9), .val (.ref b18), .val (.ref b28), .unset, .unset, .unset, .unset, .unset] [.null])) (fun t_ k_ => XS.goto X34.here hx rfl (pc0 := 104) (pc' := 115) rfl (hb hby at_104) (by decide) (by decide) k_) ?_
        refine own_st (T' := T34) (g' := (mkF m 117 #[.val (.int p0), .val (.int p1), .val (.int p2), .val (.int p3), .val (.int p4), .val (.ref b1), .val (.ref b9), .val (.ref b18), .val (.ref b28), .val .null, .unset, .unset, .unset, .unset] [])) (fun t_ k_ => XS.astore X34.here hx rfl (hb hby at_115) rfl rfl (l' := #[.val (.int p0), .val (.int p1), .val (.int p2), .val (.int p3), .val (.int p4), .val (.ref b1), .val (.ref b9), .val (.ref b18), .val (.ref b28), .val .null, .unset, .unset, .unset, .unset]) rfl k_) ?_
        have f40 : Old Z n0 T34.heap := f33.keep K34 (allS fr28 all0)
        exact seg_p117 h0 T34.heap n0 p0 p1 p2 p3 p4 b1 b9 (.ref b18) .null (.ref b28) (X34.mono (by decide) (by decide)) hx hZ hw hby hml hown hnm hret hlk rfl N34 f40 rfl rfl rfl
    · refine own_st (T' := T25) (g' := (mkF m 81 #[.val (.int p0), .val (.int p1), .val (.int p2), .val (.int p3), .val (.int p4), .val (.ref b1), .val (.ref b9), .val (.ref b18), .unset, .unset, .unset, .unset, .unset, .unset] [])) (fun t_ k_ => XS.ifNo X25.here hx rfl (hb hby at_78) rfl ((if0 _ _).trans (feq hc26).1) k_) ?_
      refine own_st (T' := T25) (g' := (mkF m 82 #[.val (.int p0), .val (.int p1), .val (.int p2), .val (.int p3), .val (.int p4), .val (.ref b1), .val (.ref b9), .val (.ref b18), .unset, .unset, .unset, .unset, .unset, .unset] [.null])) (fun t_ k_ => XS.aconstNull X25.here hx rfl (hb hby at_81) k_) ?_
      refine own_st (T' := T25) (g' := (mkF m 94 #[.val (.int p0), .val (.int p1), .val (.int p2), .val (.int p3), .val (.int p4), .val (.ref b1), .val (.ref b9), .val (.ref b18), .unset, .unset, .unset, .unset, .unset, .unset] [.null])) (fun t_ k_ => XS.goto X25.here hx rfl (pc0 := 82) (pc' := 94) rfl (hb hby at_82) (by decide) (by decide) k_) ?_
      refine own_st (T' := T25) (g' := (mkF m 96 #[.val (.int p0), .val (.int p1), .val (.int p2), .val (.int p3), .val (.int p4), .val (.ref b1), .val (.ref b9), .val (.ref b18), .val .null, .unset, .unset, .unset, .unset, .unset] [])) (fun t_ k_ => XS.astore X25.here hx rfl (hb hby at_94) rfl rfl (l' := #[.val (.int p0), .val (.int p1), .val (.int p2), .val (.int p3), .val (.int p4), .val (.ref b1), .val (.ref b9), .val (.ref b18), .val .null, .unset, .unset, .unset, .unset, .unset]) rfl k_) ?_
      refine own_st (T' := T25) (g' := (mkF m 98 #[.val (.int p0), .val (.int p1), .val (.int p2), .val (.int p3), .val (.int p4), .val (.ref b1), .val (.ref b9), .val (.ref b18), .val .null, .unset, .unset, .unset, .unset, .unset] [(.int p4)])) (fun t_ k_ => XS.iload X25.here hx rfl (hb hby at_96) rfl  k_) ?_
      refine own_st (T' := T25) (g' := (mkF m 99 #[.val (.int p0), .val (.int p1), .val (.int p2), .val (.int p3), .val (.int p4), .val (.ref b1), .val (.ref b9), .val (.ref b18), .val .null, .unset, .unset, .unset, .unset, .unset] [(.int (4 : Int32)), (.int p4)])) (fun t_ k_ => XS.iconst X25.here hx rfl (hb hby at_98) k_) ?_
      refine own_st (T' := T25) (g' := (mkF m 100 #[.val (.int p0), .val (.int p1), .val (.int p2), .val (.int p3), .val (.int p4), .val (.ref b1), .val (.ref b9), .val (.ref b18), .val .null, .unset, .unset, .unset, .unset, .unset] [(.int (p4 &&& (4 : Int32)))])) (fun t_ k_ => XS.iand X25.here hx rfl (hb hby at_99) rfl k_) ?_
      by_cases hc41 : (p4 &&& (4 : Int32)) = (0 : Int32)
      · refine own_st (T' := T25) (g' := (mkF m 107 #[.val (.int p0), .val (.int p1), .val (.int p2), .val (.int p3), .val (.int p4), .val (.ref b1), .val (.ref b9), .val (.ref b18), .val .null, .unset, .unset, .unset, .unset, .unset] [])) (fun t_ k_ => XS.ifYes X25.here hx rfl (pc0 := 100) (pc' := 107) rfl (hb hby at_100) rfl ((if0 _ _).trans (teq hc41).1) (by decide) (by decide) k_) ?_
        refine own_st (T' := T25) (g' := (mkF m 109 #[.val (.int p0), .val (.int p1), .val (.int p2), .val (.int p3), .val (.int p4), .val (.ref b1), .val (.ref b9), .val (.ref b18), .val .null, .unset, .unset, .unset, .unset, .unset] [.null])) (fun t_ k_ => XS.aload X25.here hx rfl (hb hby at_107) rfl rfl  k_) ?_
        have f42 : Old Z n0 T25.heap := f24.keep K25 (allS fr18 all0)
        obtain ⟨_, _, ⟨T43, L43, k43, n43⟩, -, X43, ⟨Lc43, hQ43, l43, y43, z43⟩, st43⟩ := Jvm.LawKit.callS X25 hx (y := (⟨"com/example/ixora/ixora/web/Page", "seeOther", "(Ljava/lang/String;)Lcom/example/ixora/ixora/web/Page;"⟩ : MethodName)) hown (mvT hZ (hw _ (List.mem_of_getElem? (i := 30) rfl))) (mvT hZ (hw _ (List.mem_of_getElem? (i := 31) rfl))) (mvT hZ (hw _ (List.mem_of_getElem? (i := 32) rfl))) (mvT hZ (hw _ (List.mem_of_getElem? (i := 33) rfl))) (by decide) (backOf (W := 0) (rm_see l Z a0 hw [] .null wm T25.heap n0 f42 SM rfl) hZ (hw _ (List.mem_of_getElem? (i := 33) rfl)) (hw _ (List.mem_of_getElem? (i := 32) rfl)) (by decide) (by decide)) (g := (mkF m 109 #[.val (.int p0), .val (.int p1), .val (.int p2), .val (.int p3), .val (.int p4), .val (.ref b1), .val (.ref b9), .val (.ref b18), .val .null, .unset, .unset, .unset, .unset, .unset] [.null])) rfl (by rw [hml]; rfl) (argsL := [.null]) (rest := []) (lenOf pd__Ljava_lang_String__Lcom_example_ixora_ixora_web_Page_ rfl) rfl (by show 2 * 0 + _ ≤ _; exact Nat.le_of_eq rfl) (hb hby at_109) (fun _ _ => ⟨rfl, rfl, (by decide : 4 + 1 ≤ _), (by decide : 10 + 4 ≤ _)⟩)
        dsimp only [Pt.U, Pt.locs, Pt.cells, Pt.slots] at X43 l43 y43 z43 st43 hQ43
        subst l43 y43 z43
        obtain ⟨b43, rfl, Nq43, K43, fq43_0, fq43_1, fq43_2, fq43_3, fq43_4, xq43_fresh_b⟩ := hQ43
        have N43 := Fr.app N25 Nq43
        refine own_st (T' := T43) (g' := (mkF m 112 #[.val (.int p0), .val (.int p1), .val (.int p2), .val (.int p3), .val (.int p4), .val (.ref b1), .val (.ref b9), .val (.ref b18), .val .null, .unset, .unset, .unset, .unset, .unset] [(.ref b43)])) st43 ?_
        have f44 : Old Z n0 T43.heap := f42.keep K43 all0
        obtain ⟨cq45, kq45, q45a, q45b, q45c⟩ := isOf hZ rfl fq43_0
        obtain ⟨_, _, ⟨T45, L45, k45, n45⟩, -, X45, ⟨Lc45, hQ45, l45, y45, z45⟩, st45⟩ := X43.virtualBack hx (y := (⟨"com/example/ixora/ixora/web/Page", "model", "()Ljava/util/Map;"⟩ : MethodName)) (z := (⟨"com/example/ixora/ixora/web/Page", "model", "()Ljava/util/Map;"⟩ : MethodName)) hown (mvT hZ (hw _ (List.mem_of_getElem? (i := 59) rfl))) (mvT hZ (hw _ (List.mem_of_getElem? (i := 60) rfl))) (notFace_of_selects (args := #[]) (mvT hZ (hw _ (List.mem_of_getElem? (i := 62) rfl)))) (mvT hZ (hw _ (List.mem_of_getElem? (i := 62) rfl))) (mvT hZ (hw _ (List.mem_of_getElem? (i := 61) rfl))) (by decide) (backOf (W := 0) (rm_g_model l Z a0 hw [] b43 (.ref wm) T43.heap n0 f44 fq43_3 rfl) hZ (hw _ (List.mem_of_getElem? (i := 63) rfl)) (hw _ (List.mem_of_getElem? (i := 32) rfl)) (by decide) (by decide)) q45a q45c (g := (mkF m 112 #[.val (.int p0), .val (.int p1), .val (.int p2), .val (.int p3), .val (.int p4), .val (.ref b1), .val (.ref b9), .val (.ref b18), .val .null, .unset, .unset, .unset, .unset, .unset] [(.ref b43)])) rfl (by rw [hml]; rfl) (Steps.refl _) (argsL := []) (rest := []) (lenOf pd___Ljava_util_Map_ rfl) rfl (by show 2 * 0 + _ ≤ _; exact Nat.le_of_eq rfl) (hb hby at_112) (fun _ _ => ⟨rfl, rfl, (by decide : 5 + 0 ≤ _), (by decide : 14 + 0 ≤ _)⟩)
        dsimp only [Pt.U, Pt.locs, Pt.cells, Pt.slots] at X45 l45 y45 z45 st45 hQ45
        subst l45 y45 z45
        obtain ⟨rfl, Nq45, eq45⟩ := hQ45
        have N45 := Fr.app N43 Nq45
        refine own_st (T' := T45) (g' := (mkF m 115 #[.val (.int p0), .val (.int p1), .val (.int p2), .val (.int p3), .val (.int p4), .val (.ref b1), .val (.ref b9), .val (.ref b18), .val .null, .unset, .unset, .unset, .unset, .unset] [(.ref wm)])) (fun t_ k_ => st45.trans k_) ?_
        refine own_st (T' := T45) (g' := (mkF m 117 #[.val (.int p0), .val (.int p1), .val (.int p2), .val (.int p3), .val (.int p4), .val (.ref b1), .val (.ref b9), .val (.ref b18), .val .null, .val (.ref wm), .unset, .unset, .unset, .unset] [])) (fun t_ k_ => XS.astore X45.here hx rfl (hb hby at_115) rfl rfl (l' := #[.val (.int p0), .val (.int p1), .val (.int p2), .val (.int p3), .val (.int p4), .val (.ref b1), .val (.ref b9), .val (.ref b18), .val .null, .val (.ref wm), .unset, .unset, .unset, .unset]) rfl k_) ?_
        exact seg_p117 h0 T43.heap n0 p0 p1 p2 p3 p4 b1 b9 (.ref b18) (.ref wm) .null (X45.mono (by decide) (by decide)) hx hZ hw hby hml hown hnm hret hlk eq45 N45 f44 rfl rfl rfl
      · refine own_st (T' := T25) (g' := (mkF m 103 #[.val (.int p0), .val (.int p1), .val (.int p2), .val (.int p3), .val (.int p4), .val (.ref b1), .val (.ref b9), .val (.ref b18), .val .null, .unset, .unset, .unset, .unset, .unset] [])) (fun t_ k_ => XS.ifNo X25.here hx rfl (hb hby at_100) rfl ((if0 _ _).trans (feq hc41).1) k_) ?_
        refine own_st (T' := T25) (g' := (mkF m 104 #[.val (.int p0), .val (.int p1), .val (.int p2), .val (.int p3), .val (.int p4), .val (.ref b1), .val (.ref b9), .val (.ref b18), .val .null, .unset, .unset, .unset, .unset, .unset] [.null])) (fun t_ k_ => XS.aconstNull X25.here hx rfl (hb hby at_103) k_) ?_
        refine own_st (T' := T25) (g' := (mkF m 115 #[.val (.int p0), .val (.int p1), .val (.int p2), .val (.int p3), .val (.int p4), .val (.ref b1), .val (.ref b9), .val (.ref b18), .val .null, .unset, .unset, .unset, .unset, .unset] [.null])) (fun t_ k_ => XS.goto X25.here hx rfl (pc0 := 104) (pc' := 115) rfl (hb hby at_104) (by decide) (by decide) k_) ?_
        refine own_st (T' := T25) (g' := (mkF m 117 #[.val (.int p0), .val (.int p1), .val (.int p2), .val (.int p3), .val (.int p4), .val (.ref b1), .val (.ref b9), .val (.ref b18), .val .null, .val .null, .unset, .unset, .unset, .unset] [])) (fun t_ k_ => XS.astore X25.here hx rfl (hb hby at_115) rfl rfl (l' := #[.val (.int p0), .val (.int p1), .val (.int p2), .val (.int p3), .val (.int p4), .val (.ref b1), .val (.ref b9), .val (.ref b18), .val .null, .val .null, .unset, .unset, .unset, .unset]) rfl k_) ?_
        have f46 : Old Z n0 T25.heap := f24.keep K25 (allS fr18 all0)
        exact seg_p117 h0 T25.heap n0 p0 p1 p2 p3 p4 b1 b9 (.ref b18) .null .null (X25.mono (by decide) (by decide)) hx hZ hw hby hml hown hnm hret hlk rfl N25 f46 rfl rfl rfl
  · refine own_st (T' := T13) (g' := (mkF m 59 #[.val (.int p0), .val (.int p1), .val (.int p2), .val (.int p3), .val (.int p4), .val (.ref b1), .val (.ref b9), .unset, .unset, .unset, .unset, .unset, .unset, .unset] [])) (fun t_ k_ => XS.ifNo X13.here hx rfl (hb hby at_56) rfl ((if0 _ _).trans (feq hc14).1) k_) ?_
    refine own_st (T' := T13) (g' := (mkF m 60 #[.val (.int p0), .val (.int p1), .val (.int p2), .val (.int p3), .val (.int p4), .val (.ref b1), .val (.ref b9), .unset, .unset, .unset, .unset, .unset, .unset, .unset] [.null])) (fun t_ k_ => XS.aconstNull X13.here hx rfl (hb hby at_59) k_) ?_
    refine own_st (T' := T13) (g' := (mkF m 72 #[.val (.int p0), .val (.int p1), .val (.int p2), .val (.int p3), .val (.int p4), .val (.ref b1), .val (.ref b9), .unset, .unset, .unset, .unset, .unset, .unset, .unset] [.null])) (fun t_ k_ => XS.goto X13.here hx rfl (pc0 := 60) (pc' := 72) rfl (hb hby at_60) (by decide) (by decide) k_) ?_
    refine own_st (T' := T13) (g' := (mkF m 74 #[.val (.int p0), .val (.int p1), .val (.int p2), .val (.int p3), .val (.int p4), .val (.ref b1), .val (.ref b9), .val .null, .unset, .unset, .unset, .unset, .unset, .unset] [])) (fun t_ k_ => XS.astore X13.here hx rfl (hb hby at_72) rfl rfl (l' := #[.val (.int p0), .val (.int p1), .val (.int p2), .val (.int p3), .val (.int p4), .val (.ref b1), .val (.ref b9), .val .null, .unset, .unset, .unset, .unset, .unset, .unset]) rfl k_) ?_
    refine own_st (T' := T13) (g' := (mkF m 76 #[.val (.int p0), .val (.int p1), .val (.int p2), .val (.int p3), .val (.int p4), .val (.ref b1), .val (.ref b9), .val .null, .unset, .unset, .unset, .unset, .unset, .unset] [(.int p4)])) (fun t_ k_ => XS.iload X13.here hx rfl (hb hby at_74) rfl  k_) ?_
    refine own_st (T' := T13) (g' := (mkF m 77 #[.val (.int p0), .val (.int p1), .val (.int p2), .val (.int p3), .val (.int p4), .val (.ref b1), .val (.ref b9), .val .null, .unset, .unset, .unset, .unset, .unset, .unset] [(.int (2 : Int32)), (.int p4)])) (fun t_ k_ => XS.iconst X13.here hx rfl (hb hby at_76) k_) ?_
    refine own_st (T' := T13) (g' := (mkF m 78 #[.val (.int p0), .val (.int p1), .val (.int p2), .val (.int p3), .val (.int p4), .val (.ref b1), .val (.ref b9), .val .null, .unset, .unset, .unset, .unset, .unset, .unset] [(.int (p4 &&& (2 : Int32)))])) (fun t_ k_ => XS.iand X13.here hx rfl (hb hby at_77) rfl k_) ?_
    by_cases hc47 : (p4 &&& (2 : Int32)) = (0 : Int32)
    · refine own_st (T' := T13) (g' := (mkF m 85 #[.val (.int p0), .val (.int p1), .val (.int p2), .val (.int p3), .val (.int p4), .val (.ref b1), .val (.ref b9), .val .null, .unset, .unset, .unset, .unset, .unset, .unset] [])) (fun t_ k_ => XS.ifYes X13.here hx rfl (pc0 := 78) (pc' := 85) rfl (hb hby at_78) rfl ((if0 _ _).trans (teq hc47).1) (by decide) (by decide) k_) ?_
      have f48 : Old Z n0 h9 := f8.ext E9
      have f49 : Old Z n0 h11 := f48.wr W11 fr9
      have f50 : Old Z n0 h13 := f49.wr W13 fr9
      obtain ⟨T51, h51, X51, e51, E51, A51, D51, -, st51⟩ := newO X13 hx hZ hown (hw _ (List.mem_of_getElem? (i := 1) rfl)) (hw _ (List.mem_of_getElem? (i := 2) rfl)) (hw _ (List.mem_of_getElem? (i := 3) rfl)) e13 (g := (mkF m 85 #[.val (.int p0), .val (.int p1), .val (.int p2), .val (.int p3), .val (.int p4), .val (.ref b1), .val (.ref b9), .val .null, .unset, .unset, .unset, .unset, .unset, .unset] [])) rfl (hb hby at_85) (by decide) (by decide)
      obtain ⟨b51, g51⟩ : ∃ z, z = h13.size := ⟨_, rfl⟩
      rw [← g51] at A51 D51 st51
      have fr51 : n0 ≤ b51 := Nat.le_trans (own_z f50) (Nat.le_of_eq g51.symm)
      have F51_coder : Fld Z h51 b51 "java/lang/String" "coder" "B" (.int (0 : Int32)) := D51 (Or.inr (hw _ (List.mem_of_getElem? (i := 27) rfl))) (ty := .byte) (by decide)
      have F51_value : Fld Z h51 b51 "java/lang/String" "value" "[B" .null := D51 (Or.inr (hw _ (List.mem_of_getElem? (i := 29) rfl))) (ty := (.array .byte)) (by decide)
      refine own_st (T' := T51) (g' := (mkF m 88 #[.val (.int p0), .val (.int p1), .val (.int p2), .val (.int p3), .val (.int p4), .val (.ref b1), .val (.ref b9), .val .null, .unset, .unset, .unset, .unset, .unset, .unset] [(.ref b51)])) st51 ?_
      refine own_st (T' := T51) (g' := (mkF m 89 #[.val (.int p0), .val (.int p1), .val (.int p2), .val (.int p3), .val (.int p4), .val (.ref b1), .val (.ref b9), .val .null, .unset, .unset, .unset, .unset, .unset, .unset] [(.ref b51), (.ref b51)])) (fun t_ k_ => XS.dup X51.here hx rfl (hb hby at_88) rfl rfl k_) ?_
      refine own_st (T' := T51) (g' := (mkF m 91 #[.val (.int p0), .val (.int p1), .val (.int p2), .val (.int p3), .val (.int p4), .val (.ref b1), .val (.ref b9), .val .null, .unset, .unset, .unset, .unset, .unset, .unset] [(.ref b9), (.ref b51), (.ref b51)])) (fun t_ k_ => XS.aload X51.here hx rfl (hb hby at_89) rfl rfl  k_) ?_
      have f52 : Arv Z h51 b9 k9 .char (2 : Int32) [(.int (nar .char ((p3 &&& (255 : Int32)).toUInt32.toUInt16.toUInt32.toInt32))), (.int (nar .char ((((p3.toUInt32 >>> ((8 : Int32) &&& 31).toUInt32).toInt32) &&& (255 : Int32)).toUInt32.toUInt16.toUInt32.toInt32)))] (.int (0 : Int32)) := V13.ext E51
      have f53 : Old Z n0 h51 := f50.ext E51
      obtain ⟨_, _, ⟨T54, L54, k54, n54⟩, -, X54, ⟨Lc54, hQ54, l54, y54, z54⟩, st54⟩ := X51.specialBack hx (y := (⟨"java/lang/String", "<init>", "([C)V"⟩ : MethodName)) rfl hown (mvT hZ (hw _ (List.mem_of_getElem? (i := 4) rfl))) (mvT hZ (hw _ (List.mem_of_getElem? (i := 5) rfl))) (mvT hZ (hw _ (List.mem_of_getElem? (i := 6) rfl))) (by decide) (backOf (W := 1) (rm_ini1_2 l Z a0 hw [] b51 b9 k9 cz (nar .char ((p3 &&& (255 : Int32)).toUInt32.toUInt16.toUInt32.toInt32)) (nar .char ((((p3.toUInt32 >>> ((8 : Int32) &&& 31).toUInt32).toInt32) &&& (255 : Int32)).toUInt32.toUInt16.toUInt32.toInt32)) h51 n0 f53 A51 F51_value F51_coder fr51 f52 SC hcz (by first | exact own_c255 _ | decide) (by first | exact own_c255 _ | decide)) hZ (hw _ (List.mem_of_getElem? (i := 6) rfl)) (hw _ (List.mem_of_getElem? (i := 3) rfl)) (by decide) (by decide)) (g := (mkF m 91 #[.val (.int p0), .val (.int p1), .val (.int p2), .val (.int p3), .val (.int p4), .val (.ref b1), .val (.ref b9), .val .null, .unset, .unset, .unset, .unset, .unset, .unset] [(.ref b9), (.ref b51), (.ref b51)])) rfl (by rw [hml]; rfl) (Steps.refl _) (a := b51) (argsL := [(.ref b9)]) (rest := [(.ref b51)]) (lenOf pd___C_V rfl) rfl (by show 2 * 0 + _ ≤ _; exact Nat.le_of_eq rfl) (hb hby at_91) (fun _ _ => ⟨rfl, e51, (by decide : 3 + 1 ≤ _), (by decide : 8 + 2 ≤ _)⟩)
      dsimp only [Pt.U, Pt.locs, Pt.cells, Pt.slots] at X54 l54 y54 z54 st54 hQ54
      subst l54 y54 z54
      obtain ⟨t54, kb54, rfl, Nq54, K54, fq54_0, fq54_1, fq54_2, fq54_3, xq54_fresh_t⟩ := hQ54
      have N54 := Fr.app Nx13 Nq54
      refine own_st (T' := T54) (g' := (mkF m 94 #[.val (.int p0), .val (.int p1), .val (.int p2), .val (.int p3), .val (.int p4), .val (.ref b1), .val (.ref b9), .val .null, .unset, .unset, .unset, .unset, .unset, .unset] [(.ref b51)])) (fun t_ k_ => st54.trans k_) ?_
      refine own_st (T' := T54) (g' := (mkF m 96 #[.val (.int p0), .val (.int p1), .val (.int p2), .val (.int p3), .val (.int p4), .val (.ref b1), .val (.ref b9), .val .null, .val (.ref b51), .unset, .unset, .unset, .unset, .unset] [])) (fun t_ k_ => XS.astore X54.here hx rfl (hb hby at_94) rfl rfl (l' := #[.val (.int p0), .val (.int p1), .val (.int p2), .val (.int p3), .val (.int p4), .val (.ref b1), .val (.ref b9), .val .null, .val (.ref b51), .unset, .unset, .unset, .unset, .unset]) rfl k_) ?_
      refine own_st (T' := T54) (g' := (mkF m 98 #[.val (.int p0), .val (.int p1), .val (.int p2), .val (.int p3), .val (.int p4), .val (.ref b1), .val (.ref b9), .val .null, .val (.ref b51), .unset, .unset, .unset, .unset, .unset] [(.int p4)])) (fun t_ k_ => XS.iload X54.here hx rfl (hb hby at_96) rfl  k_) ?_
      refine own_st (T' := T54) (g' := (mkF m 99 #[.val (.int p0), .val (.int p1), .val (.int p2), .val (.int p3), .val (.int p4), .val (.ref b1), .val (.ref b9), .val .null, .val (.ref b51), .unset, .unset, .unset, .unset, .unset] [(.int (4 : Int32)), (.int p4)])) (fun t_ k_ => XS.iconst X54.here hx rfl (hb hby at_98) k_) ?_
      refine own_st (T' := T54) (g' := (mkF m 100 #[.val (.int p0), .val (.int p1), .val (.int p2), .val (.int p3), .val (.int p4), .val (.ref b1), .val (.ref b9), .val .null, .val (.ref b51), .unset, .unset, .unset, .unset, .unset] [(.int (p4 &&& (4 : Int32)))])) (fun t_ k_ => XS.iand X54.here hx rfl (hb hby at_99) rfl k_) ?_
      by_cases hc55 : (p4 &&& (4 : Int32)) = (0 : Int32)
      · refine own_st (T' := T54) (g' := (mkF m 107 #[.val (.int p0), .val (.int p1), .val (.int p2), .val (.int p3), .val (.int p4), .val (.ref b1), .val (.ref b9), .val .null, .val (.ref b51), .unset, .unset, .unset, .unset, .unset] [])) (fun t_ k_ => XS.ifYes X54.here hx rfl (pc0 := 100) (pc' := 107) rfl (hb hby at_100) rfl ((if0 _ _).trans (teq hc55).1) (by decide) (by decide) k_) ?_
        refine own_st (T' := T54) (g' := (mkF m 109 #[.val (.int p0), .val (.int p1), .val (.int p2), .val (.int p3), .val (.int p4), .val (.ref b1), .val (.ref b9), .val .null, .val (.ref b51), .unset, .unset, .unset, .unset, .unset] [(.ref b51)])) (fun t_ k_ => XS.aload X54.here hx rfl (hb hby at_107) rfl rfl  k_) ?_
        have f56 : Old Z n0 T54.heap := f53.keep K54 (allS fr51 all0)
        obtain ⟨_, _, ⟨T57, L57, k57, n57⟩, -, X57, ⟨Lc57, hQ57, l57, y57, z57⟩, st57⟩ := Jvm.LawKit.callS X54 hx (y := (⟨"com/example/ixora/ixora/web/Page", "seeOther", "(Ljava/lang/String;)Lcom/example/ixora/ixora/web/Page;"⟩ : MethodName)) hown (mvT hZ (hw _ (List.mem_of_getElem? (i := 30) rfl))) (mvT hZ (hw _ (List.mem_of_getElem? (i := 31) rfl))) (mvT hZ (hw _ (List.mem_of_getElem? (i := 32) rfl))) (mvT hZ (hw _ (List.mem_of_getElem? (i := 33) rfl))) (by decide) (backOf (W := 0) (rm_see l Z a0 hw [] (.ref b51) wm T54.heap n0 f56 SM rfl) hZ (hw _ (List.mem_of_getElem? (i := 33) rfl)) (hw _ (List.mem_of_getElem? (i := 32) rfl)) (by decide) (by decide)) (g := (mkF m 109 #[.val (.int p0), .val (.int p1), .val (.int p2), .val (.int p3), .val (.int p4), .val (.ref b1), .val (.ref b9), .val .null, .val (.ref b51), .unset, .unset, .unset, .unset, .unset] [(.ref b51)])) rfl (by rw [hml]; rfl) (argsL := [(.ref b51)]) (rest := []) (lenOf pd__Ljava_lang_String__Lcom_example_ixora_ixora_web_Page_ rfl) rfl (by show 2 * 0 + _ ≤ _; exact Nat.le_of_eq rfl) (hb hby at_109) (fun _ _ => ⟨rfl, rfl, (by decide : 4 + 1 ≤ _), (by decide : 10 + 4 ≤ _)⟩)
        dsimp only [Pt.U, Pt.locs, Pt.cells, Pt.slots] at X57 l57 y57 z57 st57 hQ57
        subst l57 y57 z57
        obtain ⟨b57, rfl, Nq57, K57, fq57_0, fq57_1, fq57_2, fq57_3, fq57_4, xq57_fresh_b⟩ := hQ57
        have N57 := Fr.app N54 Nq57
        refine own_st (T' := T57) (g' := (mkF m 112 #[.val (.int p0), .val (.int p1), .val (.int p2), .val (.int p3), .val (.int p4), .val (.ref b1), .val (.ref b9), .val .null, .val (.ref b51), .unset, .unset, .unset, .unset, .unset] [(.ref b57)])) st57 ?_
        have f58 : Old Z n0 T57.heap := f56.keep K57 all0
        obtain ⟨cq59, kq59, q59a, q59b, q59c⟩ := isOf hZ rfl fq57_0
        obtain ⟨_, _, ⟨T59, L59, k59, n59⟩, -, X59, ⟨Lc59, hQ59, l59, y59, z59⟩, st59⟩ := X57.virtualBack hx (y := (⟨"com/example/ixora/ixora/web/Page", "model", "()Ljava/util/Map;"⟩ : MethodName)) (z := (⟨"com/example/ixora/ixora/web/Page", "model", "()Ljava/util/Map;"⟩ : MethodName)) hown (mvT hZ (hw _ (List.mem_of_getElem? (i := 59) rfl))) (mvT hZ (hw _ (List.mem_of_getElem? (i := 60) rfl))) (notFace_of_selects (args := #[]) (mvT hZ (hw _ (List.mem_of_getElem? (i := 62) rfl)))) (mvT hZ (hw _ (List.mem_of_getElem? (i := 62) rfl))) (mvT hZ (hw _ (List.mem_of_getElem? (i := 61) rfl))) (by decide) (backOf (W := 0) (rm_g_model l Z a0 hw [] b57 (.ref wm) T57.heap n0 f58 fq57_3 rfl) hZ (hw _ (List.mem_of_getElem? (i := 63) rfl)) (hw _ (List.mem_of_getElem? (i := 32) rfl)) (by decide) (by decide)) q59a q59c (g := (mkF m 112 #[.val (.int p0), .val (.int p1), .val (.int p2), .val (.int p3), .val (.int p4), .val (.ref b1), .val (.ref b9), .val .null, .val (.ref b51), .unset, .unset, .unset, .unset, .unset] [(.ref b57)])) rfl (by rw [hml]; rfl) (Steps.refl _) (argsL := []) (rest := []) (lenOf pd___Ljava_util_Map_ rfl) rfl (by show 2 * 0 + _ ≤ _; exact Nat.le_of_eq rfl) (hb hby at_112) (fun _ _ => ⟨rfl, rfl, (by decide : 5 + 0 ≤ _), (by decide : 14 + 0 ≤ _)⟩)
        dsimp only [Pt.U, Pt.locs, Pt.cells, Pt.slots] at X59 l59 y59 z59 st59 hQ59
        subst l59 y59 z59
        obtain ⟨rfl, Nq59, eq59⟩ := hQ59
        have N59 := Fr.app N57 Nq59
        refine own_st (T' := T59) (g' := (mkF m 115 #[.val (.int p0), .val (.int p1), .val (.int p2), .val (.int p3), .val (.int p4), .val (.ref b1), .val (.ref b9), .val .null, .val (.ref b51), .unset, .unset, .unset, .unset, .unset] [(.ref wm)])) (fun t_ k_ => st59.trans k_) ?_
        refine own_st (T' := T59) (g' := (mkF m 117 #[.val (.int p0), .val (.int p1), .val (.int p2), .val (.int p3), .val (.int p4), .val (.ref b1), .val (.ref b9), .val .null, .val (.ref b51), .val (.ref wm), .unset, .unset, .unset, .unset] [])) (fun t_ k_ => XS.astore X59.here hx rfl (hb hby at_115) rfl rfl (l' := #[.val (.int p0), .val (.int p1), .val (.int p2), .val (.int p3), .val (.int p4), .val (.ref b1), .val (.ref b9), .val .null, .val (.ref b51), .val (.ref wm), .unset, .unset, .unset, .unset]) rfl k_) ?_
        exact seg_p117 h0 T57.heap n0 p0 p1 p2 p3 p4 b1 b9 .null (.ref wm) (.ref b51) (X59.mono (by decide) (by decide)) hx hZ hw hby hml hown hnm hret hlk eq59 N59 f58 rfl rfl rfl
      · refine own_st (T' := T54) (g' := (mkF m 103 #[.val (.int p0), .val (.int p1), .val (.int p2), .val (.int p3), .val (.int p4), .val (.ref b1), .val (.ref b9), .val .null, .val (.ref b51), .unset, .unset, .unset, .unset, .unset] [])) (fun t_ k_ => XS.ifNo X54.here hx rfl (hb hby at_100) rfl ((if0 _ _).trans (feq hc55).1) k_) ?_
        refine own_st (T' := T54) (g' := (mkF m 104 #[.val (.int p0), .val (.int p1), .val (.int p2), .val (.int p3), .val (.int p4), .val (.ref b1), .val (.ref b9), .val .null, .val (.ref b51), .unset, .unset, .unset, .unset, .unset] [.null])) (fun t_ k_ => XS.aconstNull X54.here hx rfl (hb hby at_103) k_) ?_
        refine own_st (T' := T54) (g' := (mkF m 115 #[.val (.int p0), .val (.int p1), .val (.int p2), .val (.int p3), .val (.int p4), .val (.ref b1), .val (.ref b9), .val .null, .val (.ref b51), .unset, .unset, .unset, .unset, .unset] [.null])) (fun t_ k_ => XS.goto X54.here hx rfl (pc0 := 104) (pc' := 115) rfl (hb hby at_104) (by decide) (by decide) k_) ?_
        refine own_st (T' := T54) (g' := (mkF m 117 #[.val (.int p0), .val (.int p1), .val (.int p2), .val (.int p3), .val (.int p4), .val (.ref b1), .val (.ref b9), .val .null, .val (.ref b51), .val .null, .unset, .unset, .unset, .unset] [])) (fun t_ k_ => XS.astore X54.here hx rfl (hb hby at_115) rfl rfl (l' := #[.val (.int p0), .val (.int p1), .val (.int p2), .val (.int p3), .val (.int p4), .val (.ref b1), .val (.ref b9), .val .null, .val (.ref b51), .val .null, .unset, .unset, .unset, .unset]) rfl k_) ?_
        have f60 : Old Z n0 T54.heap := f53.keep K54 (allS fr51 all0)
        exact seg_p117 h0 T54.heap n0 p0 p1 p2 p3 p4 b1 b9 .null .null (.ref b51) (X54.mono (by decide) (by decide)) hx hZ hw hby hml hown hnm hret hlk rfl N54 f60 rfl rfl rfl
    · refine own_st (T' := T13) (g' := (mkF m 81 #[.val (.int p0), .val (.int p1), .val (.int p2), .val (.int p3), .val (.int p4), .val (.ref b1), .val (.ref b9), .val .null, .unset, .unset, .unset, .unset, .unset, .unset] [])) (fun t_ k_ => XS.ifNo X13.here hx rfl (hb hby at_78) rfl ((if0 _ _).trans (feq hc47).1) k_) ?_
      refine own_st (T' := T13) (g' := (mkF m 82 #[.val (.int p0), .val (.int p1), .val (.int p2), .val (.int p3), .val (.int p4), .val (.ref b1), .val (.ref b9), .val .null, .unset, .unset, .unset, .unset, .unset, .unset] [.null])) (fun t_ k_ => XS.aconstNull X13.here hx rfl (hb hby at_81) k_) ?_
      refine own_st (T' := T13) (g' := (mkF m 94 #[.val (.int p0), .val (.int p1), .val (.int p2), .val (.int p3), .val (.int p4), .val (.ref b1), .val (.ref b9), .val .null, .unset, .unset, .unset, .unset, .unset, .unset] [.null])) (fun t_ k_ => XS.goto X13.here hx rfl (pc0 := 82) (pc' := 94) rfl (hb hby at_82) (by decide) (by decide) k_) ?_
      refine own_st (T' := T13) (g' := (mkF m 96 #[.val (.int p0), .val (.int p1), .val (.int p2), .val (.int p3), .val (.int p4), .val (.ref b1), .val (.ref b9), .val .null, .val .null, .unset, .unset, .unset, .unset, .unset] [])) (fun t_ k_ => XS.astore X13.here hx rfl (hb hby at_94) rfl rfl (l' := #[.val (.int p0), .val (.int p1), .val (.int p2), .val (.int p3), .val (.int p4), .val (.ref b1), .val (.ref b9), .val .null, .val .null, .unset, .unset, .unset, .unset, .unset]) rfl k_) ?_
      refine own_st (T' := T13) (g' := (mkF m 98 #[.val (.int p0), .val (.int p1), .val (.int p2), .val (.int p3), .val (.int p4), .val (.ref b1), .val (.ref b9), .val .null, .val .null, .unset, .unset, .unset, .unset, .unset] [(.int p4)])) (fun t_ k_ => XS.iload X13.here hx rfl (hb hby at_96) rfl  k_) ?_
      refine own_st (T' := T13) (g' := (mkF m 99 #[.val (.int p0), .val (.int p1), .val (.int p2), .val (.int p3), .val (.int p4), .val (.ref b1), .val (.ref b9), .val .null, .val .null, .unset, .unset, .unset, .unset, .unset] [(.int (4 : Int32)), (.int p4)])) (fun t_ k_ => XS.iconst X13.here hx rfl (hb hby at_98) k_) ?_
      refine own_st (T' := T13) (g' := (mkF m 100 #[.val (.int p0), .val (.int p1), .val (.int p2), .val (.int p3), .val (.int p4), .val (.ref b1), .val (.ref b9), .val .null, .val .null, .unset, .unset, .unset, .unset, .unset] [(.int (p4 &&& (4 : Int32)))])) (fun t_ k_ => XS.iand X13.here hx rfl (hb hby at_99) rfl k_) ?_
      by_cases hc61 : (p4 &&& (4 : Int32)) = (0 : Int32)
      · refine own_st (T' := T13) (g' := (mkF m 107 #[.val (.int p0), .val (.int p1), .val (.int p2), .val (.int p3), .val (.int p4), .val (.ref b1), .val (.ref b9), .val .null, .val .null, .unset, .unset, .unset, .unset, .unset] [])) (fun t_ k_ => XS.ifYes X13.here hx rfl (pc0 := 100) (pc' := 107) rfl (hb hby at_100) rfl ((if0 _ _).trans (teq hc61).1) (by decide) (by decide) k_) ?_
        refine own_st (T' := T13) (g' := (mkF m 109 #[.val (.int p0), .val (.int p1), .val (.int p2), .val (.int p3), .val (.int p4), .val (.ref b1), .val (.ref b9), .val .null, .val .null, .unset, .unset, .unset, .unset, .unset] [.null])) (fun t_ k_ => XS.aload X13.here hx rfl (hb hby at_107) rfl rfl  k_) ?_
        have f62 : Old Z n0 h9 := f8.ext E9
        have f63 : Old Z n0 h11 := f62.wr W11 fr9
        have f64 : Old Z n0 h13 := f63.wr W13 fr9
        obtain ⟨_, _, ⟨T65, L65, k65, n65⟩, -, X65, ⟨Lc65, hQ65, l65, y65, z65⟩, st65⟩ := Jvm.LawKit.callS X13 hx (y := (⟨"com/example/ixora/ixora/web/Page", "seeOther", "(Ljava/lang/String;)Lcom/example/ixora/ixora/web/Page;"⟩ : MethodName)) hown (mvT hZ (hw _ (List.mem_of_getElem? (i := 30) rfl))) (mvT hZ (hw _ (List.mem_of_getElem? (i := 31) rfl))) (mvT hZ (hw _ (List.mem_of_getElem? (i := 32) rfl))) (mvT hZ (hw _ (List.mem_of_getElem? (i := 33) rfl))) (by decide) (backOf (W := 0) (rm_see l Z a0 hw [] .null wm h13 n0 f64 SM rfl) hZ (hw _ (List.mem_of_getElem? (i := 33) rfl)) (hw _ (List.mem_of_getElem? (i := 32) rfl)) (by decide) (by decide)) (g := (mkF m 109 #[.val (.int p0), .val (.int p1), .val (.int p2), .val (.int p3), .val (.int p4), .val (.ref b1), .val (.ref b9), .val .null, .val .null, .unset, .unset, .unset, .unset, .unset] [.null])) rfl (by rw [hml]; rfl) (argsL := [.null]) (rest := []) (lenOf pd__Ljava_lang_String__Lcom_example_ixora_ixora_web_Page_ rfl) rfl (by show 2 * 0 + _ ≤ _; exact Nat.le_of_eq rfl) (hb hby at_109) (fun _ _ => ⟨rfl, e13, (by decide : 2 + 1 ≤ _), (by decide : 4 + 4 ≤ _)⟩)
        dsimp only [Pt.U, Pt.locs, Pt.cells, Pt.slots] at X65 l65 y65 z65 st65 hQ65
        subst l65 y65 z65
        obtain ⟨b65, rfl, Nq65, K65, fq65_0, fq65_1, fq65_2, fq65_3, fq65_4, xq65_fresh_b⟩ := hQ65
        have N65 := Fr.app Nx13 Nq65
        refine own_st (T' := T65) (g' := (mkF m 112 #[.val (.int p0), .val (.int p1), .val (.int p2), .val (.int p3), .val (.int p4), .val (.ref b1), .val (.ref b9), .val .null, .val .null, .unset, .unset, .unset, .unset, .unset] [(.ref b65)])) st65 ?_
        have f66 : Old Z n0 T65.heap := f64.keep K65 all0
        obtain ⟨cq67, kq67, q67a, q67b, q67c⟩ := isOf hZ rfl fq65_0
        obtain ⟨_, _, ⟨T67, L67, k67, n67⟩, -, X67, ⟨Lc67, hQ67, l67, y67, z67⟩, st67⟩ := X65.virtualBack hx (y := (⟨"com/example/ixora/ixora/web/Page", "model", "()Ljava/util/Map;"⟩ : MethodName)) (z := (⟨"com/example/ixora/ixora/web/Page", "model", "()Ljava/util/Map;"⟩ : MethodName)) hown (mvT hZ (hw _ (List.mem_of_getElem? (i := 59) rfl))) (mvT hZ (hw _ (List.mem_of_getElem? (i := 60) rfl))) (notFace_of_selects (args := #[]) (mvT hZ (hw _ (List.mem_of_getElem? (i := 62) rfl)))) (mvT hZ (hw _ (List.mem_of_getElem? (i := 62) rfl))) (mvT hZ (hw _ (List.mem_of_getElem? (i := 61) rfl))) (by decide) (backOf (W := 0) (rm_g_model l Z a0 hw [] b65 (.ref wm) T65.heap n0 f66 fq65_3 rfl) hZ (hw _ (List.mem_of_getElem? (i := 63) rfl)) (hw _ (List.mem_of_getElem? (i := 32) rfl)) (by decide) (by decide)) q67a q67c (g := (mkF m 112 #[.val (.int p0), .val (.int p1), .val (.int p2), .val (.int p3), .val (.int p4), .val (.ref b1), .val (.ref b9), .val .null, .val .null, .unset, .unset, .unset, .unset, .unset] [(.ref b65)])) rfl (by rw [hml]; rfl) (Steps.refl _) (argsL := []) (rest := []) (lenOf pd___Ljava_util_Map_ rfl) rfl (by show 2 * 0 + _ ≤ _; exact Nat.le_of_eq rfl) (hb hby at_112) (fun _ _ => ⟨rfl, rfl, (by decide : 3 + 0 ≤ _), (by decide : 8 + 0 ≤ _)⟩)
        dsimp only [Pt.U, Pt.locs, Pt.cells, Pt.slots] at X67 l67 y67 z67 st67 hQ67
        subst l67 y67 z67
        obtain ⟨rfl, Nq67, eq67⟩ := hQ67
        have N67 := Fr.app N65 Nq67
        refine own_st (T' := T67) (g' := (mkF m 115 #[.val (.int p0), .val (.int p1), .val (.int p2), .val (.int p3), .val (.int p4), .val (.ref b1), .val (.ref b9), .val .null, .val .null, .unset, .unset, .unset, .unset, .unset] [(.ref wm)])) (fun t_ k_ => st67.trans k_) ?_
        refine own_st (T' := T67) (g' := (mkF m 117 #[.val (.int p0), .val (.int p1), .val (.int p2), .val (.int p3), .val (.int p4), .val (.ref b1), .val (.ref b9), .val .null, .val .null, .val (.ref wm), .unset, .unset, .unset, .unset] [])) (fun t_ k_ => XS.astore X67.here hx rfl (hb hby at_115) rfl rfl (l' := #[.val (.int p0), .val (.int p1), .val (.int p2), .val (.int p3), .val (.int p4), .val (.ref b1), .val (.ref b9), .val .null, .val .null, .val (.ref wm), .unset, .unset, .unset, .unset]) rfl k_) ?_
        exact seg_p117 h0 T65.heap n0 p0 p1 p2 p3 p4 b1 b9 .null (.ref wm) .null (X67.mono (by decide) (by decide)) hx hZ hw hby hml hown hnm hret hlk eq67 N67 f66 rfl rfl rfl
      · refine own_st (T' := T13) (g' := (mkF m 103 #[.val (.int p0), .val (.int p1), .val (.int p2), .val (.int p3), .val (.int p4), .val (.ref b1), .val (.ref b9), .val .null, .val .null, .unset, .unset, .unset, .unset, .unset] [])) (fun t_ k_ => XS.ifNo X13.here hx rfl (hb hby at_100) rfl ((if0 _ _).trans (feq hc61).1) k_) ?_
        refine own_st (T' := T13) (g' := (mkF m 104 #[.val (.int p0), .val (.int p1), .val (.int p2), .val (.int p3), .val (.int p4), .val (.ref b1), .val (.ref b9), .val .null, .val .null, .unset, .unset, .unset, .unset, .unset] [.null])) (fun t_ k_ => XS.aconstNull X13.here hx rfl (hb hby at_103) k_) ?_
        refine own_st (T' := T13) (g' := (mkF m 115 #[.val (.int p0), .val (.int p1), .val (.int p2), .val (.int p3), .val (.int p4), .val (.ref b1), .val (.ref b9), .val .null, .val .null, .unset, .unset, .unset, .unset, .unset] [.null])) (fun t_ k_ => XS.goto X13.here hx rfl (pc0 := 104) (pc' := 115) rfl (hb hby at_104) (by decide) (by decide) k_) ?_
        refine own_st (T' := T13) (g' := (mkF m 117 #[.val (.int p0), .val (.int p1), .val (.int p2), .val (.int p3), .val (.int p4), .val (.ref b1), .val (.ref b9), .val .null, .val .null, .val .null, .unset, .unset, .unset, .unset] [])) (fun t_ k_ => XS.astore X13.here hx rfl (hb hby at_115) rfl rfl (l' := #[.val (.int p0), .val (.int p1), .val (.int p2), .val (.int p3), .val (.int p4), .val (.ref b1), .val (.ref b9), .val .null, .val .null, .val .null, .unset, .unset, .unset, .unset]) rfl k_) ?_
        have f68 : Old Z n0 h9 := f8.ext E9
        have f69 : Old Z n0 h11 := f68.wr W11 fr9
        have f70 : Old Z n0 h13 := f69.wr W13 fr9
        exact seg_p117 h0 h13 n0 p0 p1 p2 p3 p4 b1 b9 .null .null .null (X13.mono (by decide) (by decide)) hx hZ hw hby hml hown hnm hret hlk e13 Nx13 f70 rfl rfl rfl
set_option maxRecDepth 65536 in
set_option maxHeartbeats 40000000 in
theorem comes_1 {Post : Tables → Env → Array Value → State → Outcome → State → Prop} (hpost : ∀ tb e args s v u, (limb_1_1.after args s (.returned v) u = true ∧ limb_1_2.after args s (.returned v) u = true ∧ True) → FrameEnd s (.returned v) u (Jvm.fieldLocs frame_1_writes args s ++ Jvm.arrayLocs frame_1_arrays args s ++ Jvm.staticLocs frame_1_statics s) 32 128 → Post tb e args s (.returned v) u) :
    ArmFor flags0 classFile x code maxLocals ret World_1 tables_1 room_1 Calls_1 rest_1 Pre_1 Post := by
  intro l hfl _ _ p e ha hc hk s m args below hf hA hF happ hP
  obtain ⟨hcalls, hrest, hpre⟩ := hP
  obtain ⟨-, -, -, hnamed, -, -, -, hat⟩ := (Spec.applies_iff hf).mp happ
  obtain ⟨hg, hn⟩ := and_e (Cond.before_iff.mp (show (Jvm.Cond.and given_1 narrow_1).before args s = true from hpre))
  obtain ⟨u1a, u1b⟩ := and_e hg
  obtain ⟨u2a, u2b⟩ := and_e u1b
  obtain ⟨u3a, u3b⟩ := and_e u2b
  obtain ⟨u4a, u4b⟩ := and_e u3b
  obtain ⟨u5a, u5b⟩ := and_e u4b
  obtain ⟨v0, v1, v2, v3, v4, rfl⟩ : ∃ v0 v1 v2 v3 v4 : Value, args = #[v0, v1, v2, v3, v4] := by
    have hs : args.size = 5 := by simpa [Cond.value, given_1] using u1a
    obtain ⟨L⟩ := args
    match L, hs with
    | [v0, v1, v2, v3, v4], _ => exact ⟨v0, v1, v2, v3, v4, rfl⟩
  have hw := fun d (hd : d ∈ tables_1) => atoms_spec (ws := Jvm.Cond.code x code maxLocals ret :: tables_1) hat d (List.mem_cons_of_mem _ hd)
  have hfit : Fit s := fun {y c} hc i hi => by
    obtain ⟨ha, rfl⟩ := Array.getElem?_eq_some_iff.mp hc
    have q := List.all_eq_true.mp ((Array.all_eq_true_iff_forall_mem.mp hF) _ (Array.getElem_mem ha)) i (List.mem_range.mpr hi)
    simpa [Array.getElem?_eq_getElem hi] using q
  obtain ⟨hsets, hown0⟩ := atoms_of _ (rest_1_c_eq ▸ (show rest_1_c.before _ s = true from hrest))
  have hr0 := Cond.before_iff.mp hown0
  obtain ⟨i0, ei0⟩ := is_v u2a
  obtain rfl : v0 = (.int i0) := Option.some.inj ei0
  obtain ⟨i1, ei1⟩ := is_v u3a
  obtain rfl : v1 = (.int i1) := Option.some.inj ei1
  obtain ⟨i2, ei2⟩ := is_v u4a
  obtain rfl : v2 = (.int i2) := Option.some.inj ei2
  obtain ⟨i3, ei3⟩ := is_v u5a
  obtain rfl : v3 = (.int i3) := Option.some.inj ei3
  obtain ⟨i4, ei4⟩ := is_v u5b
  obtain rfl : v4 = (.int i4) := Option.some.inj ei4
  obtain ⟨cz, evc⟩ := is_v (Cond.before_iff.mp (hsets _ (List.mem_of_getElem? (i := 1) rfl)))
  have SC := Sta.start evc (Or.inl (hsets _ (List.mem_of_getElem? (i := 0) rfl)))
  have hcz : ¬ cz = (0 : Int32) := own_nz evc (Cond.before_iff.mp (hsets _ (List.mem_of_getElem? (i := 2) rfl)))
  obtain ⟨wm, evm⟩ := exa_v (Cond.before_iff.mp (hsets _ (List.mem_of_getElem? (i := 11) rfl)))
  have SM := Sta.start evm (Or.inl (hsets _ (List.mem_of_getElem? (i := 10) rfl)))
  obtain ⟨n, o, h1, h2, h3, _, L, rfl, ⟨rfl, N⟩, hq⟩ := rm_0 l s _ hw tables_1 i0 i1 i2 i3 i4 cz wm s.heap s.heap.size (Old.start s) SC hcz SM p e ha hc hk s m _ below hf ((Spec.applies_iff_loose hf).mp happ).1 ⟨rfl, State.Warmed39.refl s, rfl⟩ trivial
  refine ⟨n, _, h1, h2, h3, hpost _ _ _ _ _ _ ⟨Cond.after_iff.mpr rfl, Cond.after_iff.mpr (eq_i res_at (Term.int_eval (1)) rfl), trivial⟩ ⟨hq.1, hq.2.1, (hq.2.2.sift fun y hy => Or.inr (N y hy)).mono (by decide) (by decide)⟩⟩
theorem main_1_1 : Claimed_1_1 := comes_1 fun _ _ _ _ _ _ h hF => ⟨h.1, hF⟩
theorem main_1_2 : Claimed_1_2 := comes_1 fun _ _ _ _ _ _ h hF => ⟨h.2.1, hF⟩
end Jvm.Pilot.@@N@@
namespace Jvm.Pilot.@@N@@
open Jvm Jvm.ClassFile Sem Op Lib Jvm.Free Jvm.Stand Jvm.Pilot.@@N@@.Jvm.D
/-! MADE BY PROGRAM (witnessworld.py) out of the Statement's table words and the real class files: 27 classes; the members and pool entries that the words name. The judged class is class 1, her method 1. -/
namespace start1
open Jvm.ClassFile
def u (s : String) : CpInfo := .utf8 (stringToUtf16 s)
/-- a pool by its gaps: so many unusable entries, then the entry; so many at the end -/
def gap : Nat → List CpInfo → List CpInfo
  | 0, r => r
  | n + 1, r => .unusable :: gap n r
def poolList (es : List (Nat × CpInfo)) (last : Nat) : List CpInfo := es.foldr (fun e r => gap e.1 (e.2 :: r)) (gap last [])
def pool (es : List (Nat × CpInfo)) (last : Nat) : Array CpInfo := ⟨poolList es last⟩
def fileOf (pool : Array CpInfo) (this : Nat) (attrs : Array Attribute := #[]) (ms : Array MethodInfo := #[]) (fl : Nat := 33) (sup : Nat := 0) (ifs : Array Nat := #[]) (fds : Array FieldInfo := #[]) : ClassFile where
  minorVersion := 0
  majorVersion := 65
  constantPool := pool
  accessFlags := fl
  thisClass := this
  superClass := sup
  interfaces := ifs
  fields := fds
  methods := ms
  attributes := attrs
def plain (name : String) (sup : Option ClassId) : Class where
  name := name
  kind := .ordinary
  loader := none
  accessFlags := 33
  super := sup
  interfaces := #[]
  cf := none
  fields := #[]
  methods := #[]
  instanceTypes := #[]
  staticTypes := #[]
  resolved := #[]
  callSites := []
  init := .initialized
  statics := none
  mirror := none

def pool0 : Array CpInfo := pool [(5, u "<init>"), (0, u "()V"), (1, .class_ 10), (1, u "java/lang/Object")] 113

def k0c0 : Code := { maxStack := 0, maxLocals := 1, code := object_method_1_code, exceptionTable := #[], attributes := #[] }
def k0m0 : Method := { name := "<init>", desc := "()V", sig := { parameters := [], returnType := none }, accessFlags := 1, code := some k0c0 }
/-- java/lang/Object -/
def k0 : Class := { plain "java/lang/Object" none with
  accessFlags := 33
  interfaces := #[]
  cf := some (fileOf pool0 8 #[] #[{ accessFlags := 1, nameIndex := 5, descriptorIndex := 6, attributes := #[] }] 33 0 #[] #[])
  fields := #[]
  methods := #[k0m0]
  instanceTypes := #[]
  staticTypes := #[]
  resolved := Array.replicate 124 none
  statics := none }

def pool1 : Array CpInfo := pool [(2, .class_ 4), (1, u "java/lang/Object"), (0, u "<init>"), (0, u "()V"), (0, .class_ 8), (0, u "java/lang/String"), (0, .methodref 7 10), (0, .nameAndType 5 11), (0, u "([C)V"), (0, .methodref 13 14), (0, .class_ 15), (0, .nameAndType 16 17), (0, u "com/example/ixora/ixora/web/Page"), (0, u "seeOther"), (0, u "(Ljava/lang/String;)Lcom/example/ixora/ixora/web/Page;"), (0, .methodref 13 19), (0, .nameAndType 20 21), (0, u "model"), (0, u "()Ljava/util/Map;"), (0, .methodref 13 23), (0, .nameAndType 5 24), (0, u "(ILjava/lang/String;Ljava/util/Map;Ljava/lang/String;)V"), (0, .methodref 13 26), (0, .nameAndType 27 28), (0, u "withStatus"), (0, u "(I)Lcom/example/ixora/ixora/web/Page;"), (0, .methodref 13 30), (0, .nameAndType 31 32), (0, u "status"), (0, u "()I"), (0, .methodref 13 34), (0, .nameAndType 35 36), (0, u "template"), (0, u "()Ljava/lang/String;"), (0, .methodref 13 38), (0, .nameAndType 39 36), (0, u "location"), (0, .class_ 41), (0, u "com/example/ixora/ixora/web/PageWithStatusPinLaw"), (2, u "law"), (0, u "(IIIII)Z")] 7

def k1m0 : Method := { name := "<init>", desc := "()V", sig := { parameters := [], returnType := none }, accessFlags := 1, code := none }
def k1c1 : Code := { maxStack := 6, maxLocals := 14, code := code, exceptionTable := #[], attributes := #[] }
def k1m1 : Method := { name := "law", desc := "(IIIII)Z", sig := { parameters := [.int, .int, .int, .int, .int], returnType := some .boolean }, accessFlags := 9, code := some k1c1 }
/-- com/example/ixora/ixora/web/PageWithStatusPinLaw -/
def k1 : Class := { plain "com/example/ixora/ixora/web/PageWithStatusPinLaw" (some 0) with
  accessFlags := 49
  interfaces := #[]
  cf := some (fileOf pool1 40 #[] #[{ accessFlags := 1, nameIndex := 5, descriptorIndex := 6, attributes := #[] }, { accessFlags := 9, nameIndex := 44, descriptorIndex := 45, attributes := #[] }] 49 2 #[] #[])
  fields := #[]
  methods := #[k1m0, k1m1]
  instanceTypes := #[]
  staticTypes := #[]
  resolved := Array.replicate 53 none
  statics := none }

def pool2 : Array CpInfo := pool [(1, .class_ 2), (0, u "java/io/Serializable"), (0, .class_ 4), (0, u "java/lang/Object")] 2

/-- java/io/Serializable -/
def k2 : Class := { plain "java/io/Serializable" (some 0) with
  accessFlags := 1537
  interfaces := #[]
  cf := some (fileOf pool2 1 #[] #[] 1537 3 #[] #[])
  fields := #[]
  methods := #[]
  instanceTypes := #[]
  staticTypes := #[]
  resolved := Array.replicate 7 none
  statics := none }

def pool3 : Array CpInfo := pool [(1, .class_ 2), (0, u "java/lang/Comparable"), (0, .class_ 4), (0, u "java/lang/Object")] 7

/-- java/lang/Comparable -/
def k3 : Class := { plain "java/lang/Comparable" (some 0) with
  accessFlags := 1537
  interfaces := #[]
  cf := some (fileOf pool3 1 #[] #[] 1537 3 #[] #[])
  fields := #[]
  methods := #[]
  instanceTypes := #[]
  staticTypes := #[]
  resolved := Array.replicate 12 none
  statics := none }

def pool4 : Array CpInfo := pool [(2, .class_ 4), (1, u "java/lang/CharSequence"), (42, .class_ 48), (0, u "java/lang/CharSequence$1CodePointIterator"), (10, .class_ 60), (0, u "java/lang/CharSequence$1CharIterator"), (5, .class_ 67), (0, u "java/lang/Object")] 63

/-- java/lang/CharSequence -/
def k4 : Class := { plain "java/lang/CharSequence" (some 0) with
  accessFlags := 1537
  interfaces := #[]
  cf := some (fileOf pool4 2 #[.nestMembers #[47, 59]] #[] 1537 66 #[] #[])
  fields := #[]
  methods := #[]
  instanceTypes := #[]
  staticTypes := #[]
  resolved := Array.replicate 131 none
  statics := none }

def pool5 : Array CpInfo := pool [(1, .class_ 2), (0, u "java/lang/constant/Constable"), (0, .class_ 4), (0, u "java/lang/Object")] 6

/-- java/lang/constant/Constable -/
def k5 : Class := { plain "java/lang/constant/Constable" (some 0) with
  accessFlags := 1537
  interfaces := #[]
  cf := some (fileOf pool5 1 #[] #[] 1537 3 #[] #[])
  fields := #[]
  methods := #[]
  instanceTypes := #[]
  staticTypes := #[]
  resolved := Array.replicate 11 none
  statics := none }

def pool6 : Array CpInfo := pool [(1, .class_ 2), (0, u "java/lang/constant/ConstantDesc"), (0, .class_ 4), (0, u "java/lang/Object")] 32

/-- java/lang/constant/ConstantDesc -/
def k6 : Class := { plain "java/lang/constant/ConstantDesc" (some 0) with
  accessFlags := 1537
  interfaces := #[]
  cf := some (fileOf pool6 1 #[] #[] 1537 3 #[] #[])
  fields := #[]
  methods := #[]
  instanceTypes := #[]
  staticTypes := #[]
  resolved := Array.replicate 37 none
  statics := none }

def pool7 : Array CpInfo := pool [(1, .methodref 2 3), (0, .class_ 4), (0, .nameAndType 5 6), (0, u "java/lang/Object"), (0, u "<init>"), (0, u "()V"), (2, .fieldref 10 11), (0, .class_ 12), (0, .nameAndType 13 14), (0, u "java/lang/String"), (0, u "value"), (0, u "[B"), (0, .fieldref 10 16), (0, .nameAndType 17 18), (0, u "coder"), (0, u "B"), (2, u "hash"), (0, u "I"), (2, u "hashIsZero"), (0, u "Z"), (0, .methodref 10 28), (0, .nameAndType 5 29), (0, u "([CIILjava/lang/Void;)V"), (8, .fieldref 10 39), (0, .nameAndType 40 26), (0, u "COMPACT_STRINGS"), (1, .class_ 44), (1, u "java/lang/StringUTF16"), (0, u "compress"), (1, .methodref 42 48), (0, .nameAndType 49 50), (0, u "coderFromArrayLen"), (0, u "([BI)B"), (126, .methodref 42 178), (0, .nameAndType 45 179), (0, u "([CII)[B"), (395, .class_ 576), (0, u "java/lang/CharSequence"), (22, u "CASE_INSENSITIVE_ORDER"), (0, u "Ljava/util/Comparator;"), (409, u "([C)V"), (90, u "serialPersistentFields"), (0, u "[Ljava/io/ObjectStreamField;"), (0, .class_ 1104), (0, u "java/lang/String$CaseInsensitiveComparator"), (1, .class_ 1107), (0, u "java/io/Serializable"), (0, .class_ 1109), (0, u "java/lang/Comparable"), (0, .class_ 1111), (0, u "java/lang/constant/Constable"), (0, .class_ 1113), (0, u "java/lang/constant/ConstantDesc"), (2, u "serialVersionUID"), (0, u "J"), (3, u "REPL"), (0, u "C"), (2, u "LATIN1"), (1, u "UTF16")] 323

def k7m0 : Method := { name := "<init>", desc := "()V", sig := { parameters := [], returnType := none }, accessFlags := 1, code := none }
def k7c1 : Code := { maxStack := 5, maxLocals := 2, code := jdk_42_method_3_code, exceptionTable := #[], attributes := #[] }
def k7m1 : Method := { name := "<init>", desc := "([C)V", sig := { parameters := [(.array .char)], returnType := none }, accessFlags := 1, code := some k7c1 }
def k7c2 : Code := { maxStack := 4, maxLocals := 6, code := jdk_42_method_149_code, exceptionTable := #[], attributes := #[] }
def k7m2 : Method := { name := "<init>", desc := "([CIILjava/lang/Void;)V", sig := { parameters := [(.array .char), .int, .int, (.object "java/lang/Void")], returnType := none }, accessFlags := 2, code := some k7c2 }
/-- java/lang/String -/
def k7 : Class := { plain "java/lang/String" (some 0) with
  accessFlags := 49
  interfaces := #[2, 3, 4, 5, 6]
  cf := some (fileOf pool7 10 #[.nestMembers #[1103]] #[{ accessFlags := 1, nameIndex := 5, descriptorIndex := 6, attributes := #[] }, { accessFlags := 1, nameIndex := 5, descriptorIndex := 1010, attributes := #[] }, { accessFlags := 2, nameIndex := 5, descriptorIndex := 29, attributes := #[] }] 49 2 #[1106, 1108, 575, 1110, 1112] #[{ accessFlags := 18, nameIndex := 13, descriptorIndex := 14, attributes := #[] }, { accessFlags := 18, nameIndex := 17, descriptorIndex := 18, attributes := #[] }, { accessFlags := 2, nameIndex := 21, descriptorIndex := 22, attributes := #[] }, { accessFlags := 2, nameIndex := 25, descriptorIndex := 26, attributes := #[] }, { accessFlags := 26, nameIndex := 1116, descriptorIndex := 1117, attributes := #[] }, { accessFlags := 24, nameIndex := 40, descriptorIndex := 26, attributes := #[] }, { accessFlags := 26, nameIndex := 1101, descriptorIndex := 1102, attributes := #[] }, { accessFlags := 26, nameIndex := 1121, descriptorIndex := 1122, attributes := #[] }, { accessFlags := 25, nameIndex := 599, descriptorIndex := 600, attributes := #[] }, { accessFlags := 24, nameIndex := 1125, descriptorIndex := 18, attributes := #[] }, { accessFlags := 24, nameIndex := 1127, descriptorIndex := 18, attributes := #[] }])
  fields := #[{ name := "value", type := (.array .byte), accessFlags := 18, slot := 0, constantValue := 0 }, { name := "coder", type := .byte, accessFlags := 18, slot := 1, constantValue := 0 }, { name := "hash", type := .int, accessFlags := 2, slot := 2, constantValue := 0 }, { name := "hashIsZero", type := .boolean, accessFlags := 2, slot := 3, constantValue := 0 }, { name := "serialVersionUID", type := .long, accessFlags := 26, slot := 0, constantValue := 0 }, { name := "COMPACT_STRINGS", type := .boolean, accessFlags := 24, slot := 1, constantValue := 0 }, { name := "serialPersistentFields", type := (.array (.object "java/io/ObjectStreamField")), accessFlags := 26, slot := 2, constantValue := 0 }, { name := "REPL", type := .char, accessFlags := 26, slot := 3, constantValue := 0 }, { name := "CASE_INSENSITIVE_ORDER", type := (.object "java/util/Comparator"), accessFlags := 25, slot := 4, constantValue := 0 }, { name := "LATIN1", type := .byte, accessFlags := 24, slot := 5, constantValue := 0 }, { name := "UTF16", type := .byte, accessFlags := 24, slot := 6, constantValue := 0 }]
  methods := #[k7m0, k7m1, k7m2]
  instanceTypes := #[(.array .byte), .byte, .int, .boolean]
  staticTypes := #[.long, .boolean, (.array (.object "java/io/ObjectStreamField")), .char, (.object "java/util/Comparator"), .byte, .byte]
  resolved := Array.replicate 1451 none
  statics := some 0 }

def pool8 : Array CpInfo := pool [(6, .class_ 8), (1, u "java/lang/Object"), (0, u "<init>"), (0, u "()V"), (1, .class_ 14), (1, u "java/lang/StringUTF16"), (31, u "$assertionsDisabled"), (0, u "Z"), (13, u "HI_BYTE_SHIFT"), (0, u "I"), (2, u "LO_BYTE_SHIFT"), (49, .methodref 12 116), (0, .nameAndType 117 118), (0, u "compress"), (0, u "([CI[BII)I"), (3, u "([CII)[B"), (138, u "coderFromArrayLen"), (0, u "([BI)B"), (106, .class_ 371), (1, u "java/lang/StringUTF16$LinesSpliterator"), (58, u "MAX_LENGTH"), (196, .class_ 628), (0, u "java/lang/StringUTF16$CodePointsSpliterator"), (0, .class_ 630), (0, u "java/lang/StringUTF16$CharsSpliterator")] 4

def k8m0 : Method := { name := "<init>", desc := "()V", sig := { parameters := [], returnType := none }, accessFlags := 0, code := none }
def k8c1 : Code := { maxStack := 2, maxLocals := 2, code := jdk_52_method_15_code, exceptionTable := #[], attributes := #[] }
def k8m1 : Method := { name := "coderFromArrayLen", desc := "([BI)B", sig := { parameters := [(.array .byte), .int], returnType := some .byte }, accessFlags := 8, code := some k8c1 }
def k8c2 : Code := { maxStack := 5, maxLocals := 6, code := jdk_52_method_16_code, exceptionTable := #[], attributes := #[] }
def k8m2 : Method := { name := "compress", desc := "([CII)[B", sig := { parameters := [(.array .char), .int, .int], returnType := some (.array .byte) }, accessFlags := 9, code := some k8c2 }
def k8c3 : Code := { maxStack := 3, maxLocals := 7, code := jdk_52_method_21_code, exceptionTable := #[], attributes := #[] }
def k8m3 : Method := { name := "compress", desc := "([CI[BII)I", sig := { parameters := [(.array .char), .int, (.array .byte), .int, .int], returnType := some .int }, accessFlags := 9, code := some k8c3 }
/-- java/lang/StringUTF16 -/
def k8 : Class := { plain "java/lang/StringUTF16" (some 0) with
  accessFlags := 48
  interfaces := #[]
  cf := some (fileOf pool8 12 #[.nestMembers #[627, 629, 369]] #[{ accessFlags := 0, nameIndex := 9, descriptorIndex := 10, attributes := #[] }, { accessFlags := 8, nameIndex := 261, descriptorIndex := 262, attributes := #[] }, { accessFlags := 9, nameIndex := 117, descriptorIndex := 122, attributes := #[] }, { accessFlags := 9, nameIndex := 117, descriptorIndex := 118, attributes := #[] }] 48 6 #[] #[{ accessFlags := 26, nameIndex := 61, descriptorIndex := 62, attributes := #[] }, { accessFlags := 26, nameIndex := 65, descriptorIndex := 62, attributes := #[] }, { accessFlags := 24, nameIndex := 430, descriptorIndex := 62, attributes := #[] }, { accessFlags := 4120, nameIndex := 46, descriptorIndex := 47, attributes := #[] }])
  fields := #[{ name := "HI_BYTE_SHIFT", type := .int, accessFlags := 26, slot := 0, constantValue := 0 }, { name := "LO_BYTE_SHIFT", type := .int, accessFlags := 26, slot := 1, constantValue := 0 }, { name := "MAX_LENGTH", type := .int, accessFlags := 24, slot := 2, constantValue := 0 }, { name := "$assertionsDisabled", type := .boolean, accessFlags := 4120, slot := 3, constantValue := 0 }]
  methods := #[k8m0, k8m1, k8m2, k8m3]
  instanceTypes := #[]
  staticTypes := #[.int, .int, .int, .boolean]
  resolved := Array.replicate 635 none
  statics := none }

def pool9 : Array CpInfo := pool [(1, .methodref 2 3), (0, .class_ 4), (0, .nameAndType 5 6), (0, u "java/lang/Object"), (0, u "<init>"), (0, u "()V"), (0, .class_ 8), (0, u "java/lang/Record")] 13

def k9c0 : Code := { maxStack := 1, maxLocals := 1, code := jdk_30_method_1_code, exceptionTable := #[], attributes := #[] }
def k9m0 : Method := { name := "<init>", desc := "()V", sig := { parameters := [], returnType := none }, accessFlags := 4, code := some k9c0 }
/-- java/lang/Record -/
def k9 : Class := { plain "java/lang/Record" (some 0) with
  accessFlags := 1057
  interfaces := #[]
  cf := some (fileOf pool9 7 #[] #[{ accessFlags := 4, nameIndex := 5, descriptorIndex := 6, attributes := #[] }] 1057 2 #[] #[])
  fields := #[]
  methods := #[k9m0]
  instanceTypes := #[]
  staticTypes := #[]
  resolved := Array.replicate 22 none
  statics := none }

def pool10 : Array CpInfo := pool [(1, .methodref 2 3), (0, .class_ 4), (0, .nameAndType 5 6), (0, u "java/lang/Record"), (0, u "<init>"), (0, u "()V"), (0, .fieldref 8 9), (0, .class_ 10), (0, .nameAndType 11 12), (0, u "com/example/ixora/ixora/web/Page"), (0, u "status"), (0, u "I"), (0, .fieldref 8 14), (0, .nameAndType 15 16), (0, u "template"), (0, u "Ljava/lang/String;"), (0, .fieldref 8 18), (0, .nameAndType 19 20), (0, u "model"), (0, u "Ljava/util/Map;"), (0, .fieldref 8 22), (0, .nameAndType 23 16), (0, u "location"), (0, .methodref 8 25), (0, .nameAndType 5 26), (0, u "(ILjava/lang/String;Ljava/util/Map;Ljava/lang/String;)V"), (0, .interfaceMethodref 28 29), (0, .class_ 30), (0, .nameAndType 31 32), (0, u "java/util/Map"), (0, u "of"), (0, u "()Ljava/util/Map;"), (23, u "OK"), (2, u "SEE_OTHER"), (1, u "FORBIDDEN"), (1, u "TOO_MANY_REQUESTS"), (7, u "seeOther"), (0, u "(Ljava/lang/String;)Lcom/example/ixora/ixora/web/Page;"), (0, u "withStatus"), (0, u "(I)Lcom/example/ixora/ixora/web/Page;"), (2, u "()Ljava/lang/String;"), (0, u "()I")] 25

def k10c0 : Code := { maxStack := 2, maxLocals := 5, code := prog_48_method_1_code, exceptionTable := #[], attributes := #[] }
def k10m0 : Method := { name := "<init>", desc := "(ILjava/lang/String;Ljava/util/Map;Ljava/lang/String;)V", sig := { parameters := [.int, (.object "java/lang/String"), (.object "java/util/Map"), (.object "java/lang/String")], returnType := none }, accessFlags := 0, code := some k10c0 }
def k10c1 : Code := { maxStack := 6, maxLocals := 1, code := prog_48_method_3_code, exceptionTable := #[], attributes := #[] }
def k10m1 : Method := { name := "seeOther", desc := "(Ljava/lang/String;)Lcom/example/ixora/ixora/web/Page;", sig := { parameters := [(.object "java/lang/String")], returnType := some (.object "com/example/ixora/ixora/web/Page") }, accessFlags := 8, code := some k10c1 }
def k10c2 : Code := { maxStack := 6, maxLocals := 2, code := prog_48_method_4_code, exceptionTable := #[], attributes := #[] }
def k10m2 : Method := { name := "withStatus", desc := "(I)Lcom/example/ixora/ixora/web/Page;", sig := { parameters := [.int], returnType := some (.object "com/example/ixora/ixora/web/Page") }, accessFlags := 0, code := some k10c2 }
def k10c3 : Code := { maxStack := 1, maxLocals := 1, code := prog_48_method_9_code, exceptionTable := #[], attributes := #[] }
def k10m3 : Method := { name := "status", desc := "()I", sig := { parameters := [], returnType := some .int }, accessFlags := 1, code := some k10c3 }
def k10c4 : Code := { maxStack := 1, maxLocals := 1, code := prog_48_method_10_code, exceptionTable := #[], attributes := #[] }
def k10m4 : Method := { name := "template", desc := "()Ljava/lang/String;", sig := { parameters := [], returnType := some (.object "java/lang/String") }, accessFlags := 1, code := some k10c4 }
def k10c5 : Code := { maxStack := 1, maxLocals := 1, code := prog_48_method_11_code, exceptionTable := #[], attributes := #[] }
def k10m5 : Method := { name := "model", desc := "()Ljava/util/Map;", sig := { parameters := [], returnType := some (.object "java/util/Map") }, accessFlags := 1, code := some k10c5 }
def k10c6 : Code := { maxStack := 1, maxLocals := 1, code := prog_48_method_12_code, exceptionTable := #[], attributes := #[] }
def k10m6 : Method := { name := "location", desc := "()Ljava/lang/String;", sig := { parameters := [], returnType := some (.object "java/lang/String") }, accessFlags := 1, code := some k10c6 }
/-- com/example/ixora/ixora/web/Page -/
def k10 : Class := { plain "com/example/ixora/ixora/web/Page" (some 9) with
  accessFlags := 48
  interfaces := #[]
  cf := some (fileOf pool10 8 #[] #[{ accessFlags := 0, nameIndex := 5, descriptorIndex := 26, attributes := #[] }, { accessFlags := 8, nameIndex := 71, descriptorIndex := 72, attributes := #[] }, { accessFlags := 0, nameIndex := 73, descriptorIndex := 74, attributes := #[] }, { accessFlags := 1, nameIndex := 11, descriptorIndex := 78, attributes := #[] }, { accessFlags := 1, nameIndex := 15, descriptorIndex := 77, attributes := #[] }, { accessFlags := 1, nameIndex := 19, descriptorIndex := 32, attributes := #[] }, { accessFlags := 1, nameIndex := 23, descriptorIndex := 77, attributes := #[] }] 48 2 #[] #[{ accessFlags := 18, nameIndex := 11, descriptorIndex := 12, attributes := #[] }, { accessFlags := 18, nameIndex := 15, descriptorIndex := 16, attributes := #[] }, { accessFlags := 18, nameIndex := 19, descriptorIndex := 20, attributes := #[] }, { accessFlags := 18, nameIndex := 23, descriptorIndex := 16, attributes := #[] }, { accessFlags := 24, nameIndex := 56, descriptorIndex := 12, attributes := #[] }, { accessFlags := 24, nameIndex := 59, descriptorIndex := 12, attributes := #[] }, { accessFlags := 24, nameIndex := 61, descriptorIndex := 12, attributes := #[] }, { accessFlags := 24, nameIndex := 63, descriptorIndex := 12, attributes := #[] }])
  fields := #[{ name := "status", type := .int, accessFlags := 18, slot := 0, constantValue := 0 }, { name := "template", type := (.object "java/lang/String"), accessFlags := 18, slot := 1, constantValue := 0 }, { name := "model", type := (.object "java/util/Map"), accessFlags := 18, slot := 2, constantValue := 0 }, { name := "location", type := (.object "java/lang/String"), accessFlags := 18, slot := 3, constantValue := 0 }, { name := "OK", type := .int, accessFlags := 24, slot := 0, constantValue := 0 }, { name := "SEE_OTHER", type := .int, accessFlags := 24, slot := 1, constantValue := 0 }, { name := "FORBIDDEN", type := .int, accessFlags := 24, slot := 2, constantValue := 0 }, { name := "TOO_MANY_REQUESTS", type := .int, accessFlags := 24, slot := 3, constantValue := 0 }]
  methods := #[k10m0, k10m1, k10m2, k10m3, k10m4, k10m5, k10m6]
  instanceTypes := #[.int, (.object "java/lang/String"), (.object "java/util/Map"), (.object "java/lang/String")]
  staticTypes := #[.int, .int, .int, .int]
  resolved := Array.replicate 104 none
  statics := none }

def pool11 : Array CpInfo := pool [(2, .class_ 4), (1, u "java/util/Map"), (31, .class_ 37), (0, u "java/util/Map$Entry"), (43, .fieldref 82 83), (0, .class_ 84), (0, .nameAndType 85 86), (0, u "java/util/ImmutableCollections"), (0, u "EMPTY_MAP"), (0, u "Ljava/util/ImmutableCollections$MapN;"), (6, .class_ 94), (0, u "java/lang/Object"), (13, u "of"), (0, u "()Ljava/util/Map;")] 153

def k11c0 : Code := { maxStack := 1, maxLocals := 0, code := jdk_72_method_26_code, exceptionTable := #[], attributes := #[] }
def k11m0 : Method := { name := "of", desc := "()Ljava/util/Map;", sig := { parameters := [], returnType := some (.object "java/util/Map") }, accessFlags := 9, code := some k11c0 }
/-- java/util/Map -/
def k11 : Class := { plain "java/util/Map" (some 0) with
  accessFlags := 1537
  interfaces := #[]
  cf := some (fileOf pool11 2 #[.nestMembers #[36]] #[{ accessFlags := 9, nameIndex := 108, descriptorIndex := 109, attributes := #[] }] 1537 93 #[] #[])
  fields := #[]
  methods := #[k11m0]
  instanceTypes := #[]
  staticTypes := #[]
  resolved := Array.replicate 263 none
  statics := none }

def pool12 : Array CpInfo := pool [(2, .class_ 4), (1, u "java/lang/Object"), (0, u "<init>"), (0, u "()V"), (3, .class_ 11), (0, u "java/util/ImmutableCollections$List12"), (0, .class_ 13), (0, u "java/util/ImmutableCollections$ListN"), (3, u "Z"), (29, .class_ 49), (1, u "java/util/ImmutableCollections"), (0, u "$assertionsDisabled"), (5, u "[Ljava/lang/Object;"), (5, u "EMPTY_LIST"), (0, u "Ljava/util/ImmutableCollections$ListN;"), (8, u "EMPTY_LIST_NULLS"), (22, u "SALT32L"), (0, u "J"), (2, u "REVERSE"), (6, u "archivedObjects"), (2, u "EMPTY"), (0, u "Ljava/lang/Object;"), (0, .class_ 112), (0, u "java/util/ImmutableCollections$SetN"), (5, u "EMPTY_SET"), (0, u "Ljava/util/ImmutableCollections$SetN;"), (0, .class_ 121), (0, u "java/util/ImmutableCollections$MapN"), (3, u "EMPTY_MAP"), (0, u "Ljava/util/ImmutableCollections$MapN;"), (4, u "EXPAND_FACTOR"), (0, u "I"), (36, .class_ 170), (0, u "java/util/ImmutableCollections$MapN$MapNIterator"), (0, .class_ 172), (0, u "java/util/ImmutableCollections$MapN$1"), (0, .class_ 174), (0, u "java/util/ImmutableCollections$Map1"), (0, .class_ 176), (0, u "java/util/ImmutableCollections$AbstractImmutableMap"), (0, .class_ 178), (0, u "java/util/ImmutableCollections$SetN$SetNIterator"), (0, .class_ 180), (0, u "java/util/ImmutableCollections$Set12"), (0, .class_ 182), (0, u "java/util/ImmutableCollections$Set12$1"), (0, .class_ 184), (0, u "java/util/ImmutableCollections$AbstractImmutableSet"), (0, .class_ 186), (0, u "java/util/ImmutableCollections$SubList"), (0, .class_ 188), (0, u "java/util/ImmutableCollections$ListItr"), (0, .class_ 190), (0, u "java/util/ImmutableCollections$AbstractImmutableList"), (0, .class_ 192), (0, u "java/util/ImmutableCollections$AbstractImmutableCollection"), (0, .class_ 194), (0, u "java/util/ImmutableCollections$Access"), (0, .class_ 196), (0, u "java/util/ImmutableCollections$Access$1")] 16

def k12m0 : Method := { name := "<init>", desc := "()V", sig := { parameters := [], returnType := none }, accessFlags := 2, code := none }
/-- java/util/ImmutableCollections -/
def k12 : Class := { plain "java/util/ImmutableCollections" (some 0) with
  accessFlags := 32
  interfaces := #[]
  cf := some (fileOf pool12 47 #[.nestMembers #[120, 169, 171, 173, 175, 111, 177, 179, 181, 183, 12, 10, 185, 187, 189, 191, 193, 195]] #[{ accessFlags := 2, nameIndex := 5, descriptorIndex := 6, attributes := #[] }] 32 2 #[] #[{ accessFlags := 26, nameIndex := 95, descriptorIndex := 96, attributes := #[] }, { accessFlags := 26, nameIndex := 99, descriptorIndex := 17, attributes := #[] }, { accessFlags := 10, nameIndex := 106, descriptorIndex := 56, attributes := #[] }, { accessFlags := 26, nameIndex := 109, descriptorIndex := 110, attributes := #[] }, { accessFlags := 24, nameIndex := 62, descriptorIndex := 63, attributes := #[] }, { accessFlags := 24, nameIndex := 72, descriptorIndex := 63, attributes := #[] }, { accessFlags := 24, nameIndex := 118, descriptorIndex := 119, attributes := #[] }, { accessFlags := 24, nameIndex := 125, descriptorIndex := 126, attributes := #[] }, { accessFlags := 24, nameIndex := 131, descriptorIndex := 132, attributes := #[] }, { accessFlags := 4120, nameIndex := 50, descriptorIndex := 17, attributes := #[] }])
  fields := #[{ name := "SALT32L", type := .long, accessFlags := 26, slot := 0, constantValue := 0 }, { name := "REVERSE", type := .boolean, accessFlags := 26, slot := 1, constantValue := 0 }, { name := "archivedObjects", type := (.array (.object "java/lang/Object")), accessFlags := 10, slot := 2, constantValue := 0 }, { name := "EMPTY", type := (.object "java/lang/Object"), accessFlags := 26, slot := 3, constantValue := 0 }, { name := "EMPTY_LIST", type := (.object "java/util/ImmutableCollections$ListN"), accessFlags := 24, slot := 4, constantValue := 0 }, { name := "EMPTY_LIST_NULLS", type := (.object "java/util/ImmutableCollections$ListN"), accessFlags := 24, slot := 5, constantValue := 0 }, { name := "EMPTY_SET", type := (.object "java/util/ImmutableCollections$SetN"), accessFlags := 24, slot := 6, constantValue := 0 }, { name := "EMPTY_MAP", type := (.object "java/util/ImmutableCollections$MapN"), accessFlags := 24, slot := 7, constantValue := 0 }, { name := "EXPAND_FACTOR", type := .int, accessFlags := 24, slot := 8, constantValue := 0 }, { name := "$assertionsDisabled", type := .boolean, accessFlags := 4120, slot := 9, constantValue := 0 }]
  methods := #[k12m0]
  instanceTypes := #[]
  staticTypes := #[.long, .boolean, (.array (.object "java/lang/Object")), (.object "java/lang/Object"), (.object "java/util/ImmutableCollections$ListN"), (.object "java/util/ImmutableCollections$ListN"), (.object "java/util/ImmutableCollections$SetN"), (.object "java/util/ImmutableCollections$MapN"), .int, .boolean]
  resolved := Array.replicate 213 none
  statics := some 1 }

def pool13 : Array CpInfo := pool [(4, .class_ 6), (1, u "java/lang/Object"), (0, u "<init>"), (0, u "()V"), (5, .class_ 16), (1, u "java/lang/StringLatin1"), (104, u "$assertionsDisabled"), (0, u "Z"), (98, .class_ 223), (1, u "java/lang/StringLatin1$LinesSpliterator"), (166, .class_ 391), (0, u "java/lang/StringLatin1$CharsSpliterator")] 3

def k13m0 : Method := { name := "<init>", desc := "()V", sig := { parameters := [], returnType := none }, accessFlags := 0, code := none }
/-- java/lang/StringLatin1 -/
def k13 : Class := { plain "java/lang/StringLatin1" (some 0) with
  accessFlags := 48
  interfaces := #[]
  cf := some (fileOf pool13 14 #[.nestMembers #[390, 221]] #[{ accessFlags := 0, nameIndex := 7, descriptorIndex := 8, attributes := #[] }] 48 4 #[] #[{ accessFlags := 4120, nameIndex := 121, descriptorIndex := 122, attributes := #[] }])
  fields := #[{ name := "$assertionsDisabled", type := .boolean, accessFlags := 4120, slot := 0, constantValue := 0 }]
  methods := #[k13m0]
  instanceTypes := #[]
  staticTypes := #[.boolean]
  resolved := Array.replicate 395 none
  statics := none }

def pool14 : Array CpInfo := pool [(2, .class_ 4), (1, u "java/lang/Object"), (0, u "<init>"), (0, u "()V"), (17, .class_ 26), (1, u "jdk/internal/util/Preconditions"), (28, .class_ 56), (0, u "jdk/internal/util/Preconditions$4"), (57, .class_ 115), (0, u "jdk/internal/util/Preconditions$1"), (7, u "SIOOBE_FORMATTER"), (0, u "Ljava/util/function/BiFunction;"), (0, .class_ 126), (0, u "jdk/internal/util/Preconditions$2"), (3, u "AIOOBE_FORMATTER"), (0, .class_ 132), (0, u "jdk/internal/util/Preconditions$3"), (3, u "IOOBE_FORMATTER")] 57

def k14m0 : Method := { name := "<init>", desc := "()V", sig := { parameters := [], returnType := none }, accessFlags := 1, code := none }
/-- jdk/internal/util/Preconditions -/
def k14 : Class := { plain "jdk/internal/util/Preconditions" (some 0) with
  accessFlags := 33
  interfaces := #[]
  cf := some (fileOf pool14 24 #[.nestMembers #[55, 131, 125, 114]] #[{ accessFlags := 1, nameIndex := 5, descriptorIndex := 6, attributes := #[] }] 33 2 #[] #[{ accessFlags := 25, nameIndex := 123, descriptorIndex := 124, attributes := #[] }, { accessFlags := 25, nameIndex := 130, descriptorIndex := 124, attributes := #[] }, { accessFlags := 25, nameIndex := 136, descriptorIndex := 124, attributes := #[] }])
  fields := #[{ name := "SIOOBE_FORMATTER", type := (.object "java/util/function/BiFunction"), accessFlags := 25, slot := 0, constantValue := 0 }, { name := "AIOOBE_FORMATTER", type := (.object "java/util/function/BiFunction"), accessFlags := 25, slot := 1, constantValue := 0 }, { name := "IOOBE_FORMATTER", type := (.object "java/util/function/BiFunction"), accessFlags := 25, slot := 2, constantValue := 0 }]
  methods := #[k14m0]
  instanceTypes := #[]
  staticTypes := #[(.object "java/util/function/BiFunction"), (.object "java/util/function/BiFunction"), (.object "java/util/function/BiFunction")]
  resolved := Array.replicate 194 none
  statics := some 2 }

def pool15 : Array CpInfo := pool [(9, u "<init>"), (6, .class_ 18), (1, u "java/lang/Object"), (0, u "()V"), (1, .class_ 23), (1, u "jdk/internal/util/ArraysSupport"), (0, u "LOG2_ARRAY_LONG_INDEX_SCALE"), (0, u "I"), (2, u "U"), (0, u "Ljdk/internal/misc/Unsafe;"), (8, u "BIG_ENDIAN"), (0, u "Z"), (8, u "LOG2_BYTE_BIT_SIZE"), (4, u "LOG2_ARRAY_INT_INDEX_SCALE"), (54, u "JLA"), (0, u "Ljdk/internal/access/JavaLangAccess;"), (11, u "LOG2_ARRAY_BOOLEAN_INDEX_SCALE"), (9, u "LOG2_ARRAY_BYTE_INDEX_SCALE"), (5, u "LOG2_ARRAY_CHAR_INDEX_SCALE"), (5, u "LOG2_ARRAY_SHORT_INDEX_SCALE"), (18, u "LOG2_ARRAY_FLOAT_INDEX_SCALE"), (24, u "LOG2_ARRAY_DOUBLE_INDEX_SCALE"), (89, u "T_BOOLEAN"), (2, u "T_CHAR"), (1, u "T_FLOAT"), (1, u "T_DOUBLE"), (1, u "T_BYTE"), (1, u "T_SHORT"), (1, u "T_INT"), (1, u "T_LONG"), (1, u "SOFT_MAX_ARRAY_LENGTH")] 83

def k15m0 : Method := { name := "<init>", desc := "()V", sig := { parameters := [], returnType := none }, accessFlags := 2, code := none }
/-- jdk/internal/util/ArraysSupport -/
def k15 : Class := { plain "jdk/internal/util/ArraysSupport" (some 0) with
  accessFlags := 33
  interfaces := #[]
  cf := some (fileOf pool15 21 #[] #[{ accessFlags := 2, nameIndex := 9, descriptorIndex := 19, attributes := #[] }] 33 16 #[] #[{ accessFlags := 24, nameIndex := 28, descriptorIndex := 29, attributes := #[] }, { accessFlags := 26, nameIndex := 38, descriptorIndex := 39, attributes := #[] }, { accessFlags := 25, nameIndex := 121, descriptorIndex := 25, attributes := #[] }, { accessFlags := 25, nameIndex := 131, descriptorIndex := 25, attributes := #[] }, { accessFlags := 25, nameIndex := 137, descriptorIndex := 25, attributes := #[] }, { accessFlags := 25, nameIndex := 143, descriptorIndex := 25, attributes := #[] }, { accessFlags := 25, nameIndex := 53, descriptorIndex := 25, attributes := #[] }, { accessFlags := 25, nameIndex := 24, descriptorIndex := 25, attributes := #[] }, { accessFlags := 25, nameIndex := 162, descriptorIndex := 25, attributes := #[] }, { accessFlags := 25, nameIndex := 187, descriptorIndex := 25, attributes := #[] }, { accessFlags := 26, nameIndex := 48, descriptorIndex := 25, attributes := #[] }, { accessFlags := 25, nameIndex := 277, descriptorIndex := 25, attributes := #[] }, { accessFlags := 25, nameIndex := 280, descriptorIndex := 25, attributes := #[] }, { accessFlags := 25, nameIndex := 282, descriptorIndex := 25, attributes := #[] }, { accessFlags := 25, nameIndex := 284, descriptorIndex := 25, attributes := #[] }, { accessFlags := 25, nameIndex := 286, descriptorIndex := 25, attributes := #[] }, { accessFlags := 25, nameIndex := 288, descriptorIndex := 25, attributes := #[] }, { accessFlags := 25, nameIndex := 290, descriptorIndex := 25, attributes := #[] }, { accessFlags := 25, nameIndex := 292, descriptorIndex := 25, attributes := #[] }, { accessFlags := 26, nameIndex := 108, descriptorIndex := 109, attributes := #[] }, { accessFlags := 25, nameIndex := 294, descriptorIndex := 25, attributes := #[] }])
  fields := #[{ name := "U", type := (.object "jdk/internal/misc/Unsafe"), accessFlags := 24, slot := 0, constantValue := 0 }, { name := "BIG_ENDIAN", type := .boolean, accessFlags := 26, slot := 1, constantValue := 0 }, { name := "LOG2_ARRAY_BOOLEAN_INDEX_SCALE", type := .int, accessFlags := 25, slot := 2, constantValue := 0 }, { name := "LOG2_ARRAY_BYTE_INDEX_SCALE", type := .int, accessFlags := 25, slot := 3, constantValue := 0 }, { name := "LOG2_ARRAY_CHAR_INDEX_SCALE", type := .int, accessFlags := 25, slot := 4, constantValue := 0 }, { name := "LOG2_ARRAY_SHORT_INDEX_SCALE", type := .int, accessFlags := 25, slot := 5, constantValue := 0 }, { name := "LOG2_ARRAY_INT_INDEX_SCALE", type := .int, accessFlags := 25, slot := 6, constantValue := 0 }, { name := "LOG2_ARRAY_LONG_INDEX_SCALE", type := .int, accessFlags := 25, slot := 7, constantValue := 0 }, { name := "LOG2_ARRAY_FLOAT_INDEX_SCALE", type := .int, accessFlags := 25, slot := 8, constantValue := 0 }, { name := "LOG2_ARRAY_DOUBLE_INDEX_SCALE", type := .int, accessFlags := 25, slot := 9, constantValue := 0 }, { name := "LOG2_BYTE_BIT_SIZE", type := .int, accessFlags := 26, slot := 10, constantValue := 0 }, { name := "T_BOOLEAN", type := .int, accessFlags := 25, slot := 11, constantValue := 0 }, { name := "T_CHAR", type := .int, accessFlags := 25, slot := 12, constantValue := 0 }, { name := "T_FLOAT", type := .int, accessFlags := 25, slot := 13, constantValue := 0 }, { name := "T_DOUBLE", type := .int, accessFlags := 25, slot := 14, constantValue := 0 }, { name := "T_BYTE", type := .int, accessFlags := 25, slot := 15, constantValue := 0 }, { name := "T_SHORT", type := .int, accessFlags := 25, slot := 16, constantValue := 0 }, { name := "T_INT", type := .int, accessFlags := 25, slot := 17, constantValue := 0 }, { name := "T_LONG", type := .int, accessFlags := 25, slot := 18, constantValue := 0 }, { name := "JLA", type := (.object "jdk/internal/access/JavaLangAccess"), accessFlags := 26, slot := 19, constantValue := 0 }, { name := "SOFT_MAX_ARRAY_LENGTH", type := .int, accessFlags := 25, slot := 20, constantValue := 0 }]
  methods := #[k15m0]
  instanceTypes := #[]
  staticTypes := #[(.object "jdk/internal/misc/Unsafe"), .boolean, .int, .int, .int, .int, .int, .int, .int, .int, .int, .int, .int, .int, .int, .int, .int, .int, .int, (.object "jdk/internal/access/JavaLangAccess"), .int]
  resolved := Array.replicate 378 none
  statics := none }

def pool16 : Array CpInfo := pool [(2, .class_ 4), (1, u "java/lang/Object"), (0, u "<init>"), (0, u "()V"), (1, .class_ 10), (1, u "java/util/AbstractMap"), (42, .class_ 54), (0, u "java/util/Map"), (9, u "keySet"), (0, u "Ljava/util/Set;"), (0, .class_ 67), (0, u "java/util/AbstractMap$1"), (5, u "values"), (0, u "Ljava/util/Collection;"), (0, .class_ 76), (0, u "java/util/AbstractMap$2"), (104, .class_ 182), (0, u "java/util/AbstractMap$ViewCollection"), (0, .class_ 184), (0, u "java/util/AbstractMap$SimpleImmutableEntry"), (0, .class_ 186), (0, u "java/util/AbstractMap$SimpleEntry"), (0, .class_ 188), (0, u "java/util/AbstractMap$2$1"), (0, .class_ 190), (0, u "java/util/AbstractMap$1$1")] 5

def k16m0 : Method := { name := "<init>", desc := "()V", sig := { parameters := [], returnType := none }, accessFlags := 4, code := none }
/-- java/util/AbstractMap -/
def k16 : Class := { plain "java/util/AbstractMap" (some 0) with
  accessFlags := 1057
  interfaces := #[11]
  cf := some (fileOf pool16 8 #[.nestMembers #[181, 183, 185, 75, 187, 66, 189]] #[{ accessFlags := 4, nameIndex := 5, descriptorIndex := 6, attributes := #[] }] 1057 2 #[53] #[{ accessFlags := 128, nameIndex := 64, descriptorIndex := 65, attributes := #[] }, { accessFlags := 128, nameIndex := 73, descriptorIndex := 74, attributes := #[] }])
  fields := #[{ name := "keySet", type := (.object "java/util/Set"), accessFlags := 128, slot := 0, constantValue := 0 }, { name := "values", type := (.object "java/util/Collection"), accessFlags := 128, slot := 1, constantValue := 0 }]
  methods := #[k16m0]
  instanceTypes := #[(.object "java/util/Set"), (.object "java/util/Collection")]
  staticTypes := #[]
  resolved := Array.replicate 196 none
  statics := none }

def pool17 : Array CpInfo := pool [(2, .class_ 4), (1, u "java/util/AbstractMap"), (0, u "<init>"), (0, u "()V"), (1, .class_ 10), (1, u "java/util/ImmutableCollections"), (3, .class_ 16), (1, u "java/util/ImmutableCollections$AbstractImmutableMap"), (2, .class_ 20), (0, u "java/io/Serializable")] 66

def k17m0 : Method := { name := "<init>", desc := "()V", sig := { parameters := [], returnType := none }, accessFlags := 0, code := none }
/-- java/util/ImmutableCollections$AbstractImmutableMap -/
def k17 : Class := { plain "java/util/ImmutableCollections$AbstractImmutableMap" (some 16) with
  accessFlags := 1056
  interfaces := #[2]
  cf := some (fileOf pool17 14 #[.nestHost 8] #[{ accessFlags := 0, nameIndex := 5, descriptorIndex := 6, attributes := #[] }] 1056 2 #[19] #[])
  fields := #[]
  methods := #[k17m0]
  instanceTypes := #[(.object "java/util/Set"), (.object "java/util/Collection")]
  staticTypes := #[]
  resolved := Array.replicate 87 none
  statics := none }

def pool18 : Array CpInfo := pool [(1, .class_ 2), (0, u "java/util/ImmutableCollections"), (1, .class_ 6), (1, u "java/util/ImmutableCollections$AbstractImmutableMap"), (10, .class_ 19), (1, u "java/util/ImmutableCollections$MapN"), (0, u "size"), (0, u "I"), (4, u "table"), (0, u "[Ljava/lang/Object;")] 121

/-- java/util/ImmutableCollections$MapN -/
def k18 : Class := { plain "java/util/ImmutableCollections$MapN" (some 17) with
  accessFlags := 48
  interfaces := #[]
  cf := some (fileOf pool18 17 #[.nestHost 1] #[] 48 4 #[] #[{ accessFlags := 16, nameIndex := 26, descriptorIndex := 27, attributes := #[] }, { accessFlags := 16, nameIndex := 20, descriptorIndex := 21, attributes := #[] }])
  fields := #[{ name := "table", type := (.array (.object "java/lang/Object")), accessFlags := 16, slot := 2, constantValue := 0 }, { name := "size", type := .int, accessFlags := 16, slot := 3, constantValue := 0 }]
  methods := #[]
  instanceTypes := #[(.object "java/util/Set"), (.object "java/util/Collection"), (.array (.object "java/lang/Object")), .int]
  staticTypes := #[]
  resolved := Array.replicate 149 none
  statics := none }

def pool19 : Array CpInfo := pool [(1, u "java/lang/Cloneable"), (0, .class_ 1), (0, u "java/lang/Object"), (0, .class_ 3)] 3

/-- java/lang/Cloneable -/
def k19 : Class := { plain "java/lang/Cloneable" (some 0) with
  accessFlags := 1537
  interfaces := #[]
  cf := some (fileOf pool19 2 #[] #[] 1537 4 #[] #[])
  fields := #[]
  methods := #[]
  instanceTypes := #[]
  staticTypes := #[]
  resolved := Array.replicate 8 none
  statics := none }

/-- the primitive byte -/
def k20 : Class := { plain "byte" none with kind := .primitive 'B', accessFlags := 0x411 }
/-- [B -/
def k21 : Class := { plain "[B" (some 0) with kind := .array 20 .byte, interfaces := #[19, 2], accessFlags := 1041 }

/-- the primitive char -/
def k22 : Class := { plain "char" none with kind := .primitive 'C', accessFlags := 0x411 }
/-- [C -/
def k23 : Class := { plain "[C" (some 0) with kind := .array 22 .char, interfaces := #[19, 2], accessFlags := 1041 }

/-- the primitive int -/
def k24 : Class := { plain "int" none with kind := .primitive 'I', accessFlags := 0x411 }
/-- [I -/
def k25 : Class := { plain "[I" (some 0) with kind := .array 24 .int, interfaces := #[19, 2], accessFlags := 1041 }

/-- [Ljava/lang/Object; -/
def k26 : Class := { plain "[Ljava/lang/Object;" (some 0) with kind := .array 0 (.object "java/lang/Object"), interfaces := #[19, 2], accessFlags := 1041 }

def heap : Heap := #[{ cls := 7, slots := #[.long 0, .int 1, .null, .int 0, .null, .int 0, .int 0], vm := .statics 7 },
  { cls := 12, slots := #[.long 0, .int 0, .null, .null, .null, .null, .null, .ref 4, .int 0, .int 0], vm := .statics 12 },
  { cls := 14, slots := #[.null, .null, .null], vm := .statics 14 },
  { cls := 26, slots := #[], vm := .none },
  { cls := 18, slots := #[.null, .null, .ref 3, .int 0], vm := .none }]
def classes : Array Class := #[k0, k1, k2, k3, k4, k5, k6, k7, k8, k9, k10, k11, k12, k13, k14, k15, k16, k17, k18, k19, k20, k21, k22, k23, k24, k25, k26]
def interned : List (Array UInt16 × Addr) := []
def slotsUsed : Nat := 24
def theMethod : MethodId := ⟨1, 1⟩
def args0 : Array Value := #[.int 5, .int 3, .int 7, .int 8, .int 1]
def aboutOver (below : List Frame) : State where
  vm := { classes := classes, interned := interned.toArray }
  heap := heap
  slotsUsed := slotsUsed
  threads := #[{ frames := .invoking theMethod args0 :: below }]
def below0 : List Frame := [.native { method := ⟨0, 0⟩, args := #[] }]
def about1 : State := aboutOver below0
def p0 : Program := .bare "" "" ""
def e0 : Env := launch0.env 0 0 0
theorem w_frames : about1.frames = Frame.invoking theMethod args0 :: below0 := rfl
set_option maxRecDepth 65536 in
theorem w_args : argsFit about1.vm theMethod args0 = true := by decide +kernel
set_option maxRecDepth 65536 in
theorem w_heap : heapFits about1 = true := by decide +kernel
set_option maxRecDepth 65536 in
theorem w_runnable : about1.curStatus? = some .runnable := by decide +kernel
set_option maxRecDepth 65536 in
theorem w_alone : about1.alone = true := by decide +kernel
set_option maxRecDepth 65536 in
theorem w_named : about1.methodNamed? x = some theMethod := by decide +kernel
set_option maxRecDepth 65536 in
theorem w_hears : about1.hears theMethod below0 = true := by decide +kernel
set_option maxRecDepth 65536 in
theorem w_ripe : about1.ripe theMethod args0 below0 = true := by decide +kernel
theorem w_running : about1.status = .running := rfl
set_option maxRecDepth 65536 in
theorem w_room : about1.hasRoom e0.platform room_1 = true :=
  launch0.hasRoom_least _ room_1 (by decide +kernel) (by decide +kernel) (by decide +kernel) (by decide +kernel) (by decide +kernel) (by decide +kernel)
theorem allAtoms_all (ts : List Jvm.Cond) (a : Array Jvm.Value) (st : Jvm.State) : (allAtoms ts).before a st = ts.all (fun c => c.before a st) := by
  induction ts with
  | nil => rfl
  | cons c t ih =>
    show (Jvm.Cond.and c (allAtoms t)).before a st = _
    rw [Jvm.Cond.before_and, ih, List.all_cons]
def words1 : List Jvm.Cond := Jvm.Cond.code x code maxLocals ret :: tables_1
/-- a 'code' word, met by the world's own term for the bytes: nothing is compared byte by byte -/
theorem code_word {y : MethodName} {bytes : ByteArray} {mx : Nat} {rt : Option FieldType} {a : Array Value} {s : State} {m : MethodId} {meth : Method} {c : Code} (h1 : s.methodNamed? y = some m) (h2 : s.vm.method? m = some meth) (h3 : meth.code = some c) (h4 : c.code = bytes)
    (h5 : (c.maxLocals == mx && c.exceptionTable.isEmpty && decide (c.maxStack ≤ mostOperands) && decide (meth.sig.returnType = rt) && !meth.locks && decide (parseMethodDescriptor y.desc = some meth.sig)) = true) : (Jvm.Cond.code y bytes mx rt).before a s = true := by
  simp only [Bool.and_eq_true, beq_iff_eq, Bool.not_eq_true', decide_eq_true_eq] at h5
  obtain ⟨⟨⟨⟨⟨g1, g2⟩, g3⟩, g4⟩, g5⟩, g6⟩ := h5
  simp [Cond.before, Cond.holds, Cond.value, h1, h2, h3, h4, g1, g2, g3, g4, g5, g6]
def isCode : Jvm.Cond → Bool
  | .code _ _ _ _ => true
  | _ => false
theorem all_split {L : List Jvm.Cond} {P : Jvm.Cond → Bool} (h1 : L.all (fun c => isCode c || P c) = true) (h2 : ∀ c ∈ L.filter isCode, P c = true) : L.all P = true := by
  refine List.all_eq_true.mpr fun c hc => ?_
  have h := List.all_eq_true.mp h1 c hc
  rcases Bool.eq_false_or_eq_true (isCode c) with hi | hi
  · exact h2 c (List.mem_filter.mpr ⟨hc, hi⟩)
  · simpa [hi] using h
set_option maxRecDepth 65536 in
theorem w_c0 : (Jvm.Cond.code x code maxLocals ret).before args0 about1 = true := code_word (m := ⟨1, 1⟩) (meth := k1m1) (c := k1c1) (by decide +kernel) rfl rfl rfl (by decide +kernel)
set_option maxRecDepth 65536 in
theorem w_c1 : (Jvm.Cond.code ({ cls := "java/lang/String", name := "<init>", desc := "([C)V" } : Jvm.MethodName) jdk_42_method_3_code (2 : Nat) (Option.none : Option Jvm.ClassFile.FieldType)).before args0 about1 = true := code_word (m := ⟨7, 1⟩) (meth := k7m1) (c := k7c1) (by decide +kernel) rfl rfl rfl (by decide +kernel)
set_option maxRecDepth 65536 in
theorem w_c2 : (Jvm.Cond.code ({ cls := "java/lang/String", name := "<init>", desc := "([CIILjava/lang/Void;)V" } : Jvm.MethodName) jdk_42_method_149_code (6 : Nat) (Option.none : Option Jvm.ClassFile.FieldType)).before args0 about1 = true := code_word (m := ⟨7, 2⟩) (meth := k7m2) (c := k7c2) (by decide +kernel) rfl rfl rfl (by decide +kernel)
set_option maxRecDepth 65536 in
theorem w_c3 : (Jvm.Cond.code ({ cls := "java/lang/Object", name := "<init>", desc := "()V" } : Jvm.MethodName) object_method_1_code (1 : Nat) (Option.none : Option Jvm.ClassFile.FieldType)).before args0 about1 = true := code_word (m := ⟨0, 0⟩) (meth := k0m0) (c := k0c0) (by decide +kernel) rfl rfl rfl (by decide +kernel)
set_option maxRecDepth 65536 in
theorem w_c4 : (Jvm.Cond.code ({ cls := "java/lang/StringUTF16", name := "compress", desc := "([CII)[B" } : Jvm.MethodName) jdk_52_method_16_code (6 : Nat) (Option.some (Jvm.ClassFile.FieldType.array Jvm.ClassFile.FieldType.byte))).before args0 about1 = true := code_word (m := ⟨8, 2⟩) (meth := k8m2) (c := k8c2) (by decide +kernel) rfl rfl rfl (by decide +kernel)
set_option maxRecDepth 65536 in
theorem w_c5 : (Jvm.Cond.code ({ cls := "java/lang/StringUTF16", name := "compress", desc := "([CI[BII)I" } : Jvm.MethodName) jdk_52_method_21_code (7 : Nat) (Option.some Jvm.ClassFile.FieldType.int)).before args0 about1 = true := code_word (m := ⟨8, 3⟩) (meth := k8m3) (c := k8c3) (by decide +kernel) rfl rfl rfl (by decide +kernel)
set_option maxRecDepth 65536 in
theorem w_c6 : (Jvm.Cond.code ({ cls := "java/lang/StringUTF16", name := "coderFromArrayLen", desc := "([BI)B" } : Jvm.MethodName) jdk_52_method_15_code (2 : Nat) (Option.some Jvm.ClassFile.FieldType.byte)).before args0 about1 = true := code_word (m := ⟨8, 1⟩) (meth := k8m1) (c := k8c1) (by decide +kernel) rfl rfl rfl (by decide +kernel)
set_option maxRecDepth 65536 in
theorem w_c7 : (Jvm.Cond.code ({ cls := "com/example/ixora/ixora/web/Page", name := "seeOther", desc := "(Ljava/lang/String;)Lcom/example/ixora/ixora/web/Page;" } : Jvm.MethodName) prog_48_method_3_code (1 : Nat) (Option.some (Jvm.ClassFile.FieldType.object "com/example/ixora/ixora/web/Page"))).before args0 about1 = true := code_word (m := ⟨10, 1⟩) (meth := k10m1) (c := k10c1) (by decide +kernel) rfl rfl rfl (by decide +kernel)
set_option maxRecDepth 65536 in
theorem w_c8 : (Jvm.Cond.code ({ cls := "java/util/Map", name := "of", desc := "()Ljava/util/Map;" } : Jvm.MethodName) jdk_72_method_26_code (0 : Nat) (Option.some (Jvm.ClassFile.FieldType.object "java/util/Map"))).before args0 about1 = true := code_word (m := ⟨11, 0⟩) (meth := k11m0) (c := k11c0) (by decide +kernel) rfl rfl rfl (by decide +kernel)
set_option maxRecDepth 65536 in
theorem w_c9 : (Jvm.Cond.code ({ cls := "com/example/ixora/ixora/web/Page", name := "<init>", desc := "(ILjava/lang/String;Ljava/util/Map;Ljava/lang/String;)V" } : Jvm.MethodName) prog_48_method_1_code (5 : Nat) (Option.none : Option Jvm.ClassFile.FieldType)).before args0 about1 = true := code_word (m := ⟨10, 0⟩) (meth := k10m0) (c := k10c0) (by decide +kernel) rfl rfl rfl (by decide +kernel)
set_option maxRecDepth 65536 in
theorem w_c10 : (Jvm.Cond.code ({ cls := "java/lang/Record", name := "<init>", desc := "()V" } : Jvm.MethodName) jdk_30_method_1_code (1 : Nat) (Option.none : Option Jvm.ClassFile.FieldType)).before args0 about1 = true := code_word (m := ⟨9, 0⟩) (meth := k9m0) (c := k9c0) (by decide +kernel) rfl rfl rfl (by decide +kernel)
set_option maxRecDepth 65536 in
theorem w_c11 : (Jvm.Cond.code ({ cls := "com/example/ixora/ixora/web/Page", name := "model", desc := "()Ljava/util/Map;" } : Jvm.MethodName) prog_48_method_11_code (1 : Nat) (Option.some (Jvm.ClassFile.FieldType.object "java/util/Map"))).before args0 about1 = true := code_word (m := ⟨10, 5⟩) (meth := k10m5) (c := k10c5) (by decide +kernel) rfl rfl rfl (by decide +kernel)
set_option maxRecDepth 65536 in
theorem w_c12 : (Jvm.Cond.code ({ cls := "com/example/ixora/ixora/web/Page", name := "withStatus", desc := "(I)Lcom/example/ixora/ixora/web/Page;" } : Jvm.MethodName) prog_48_method_4_code (2 : Nat) (Option.some (Jvm.ClassFile.FieldType.object "com/example/ixora/ixora/web/Page"))).before args0 about1 = true := code_word (m := ⟨10, 2⟩) (meth := k10m2) (c := k10c2) (by decide +kernel) rfl rfl rfl (by decide +kernel)
set_option maxRecDepth 65536 in
theorem w_c13 : (Jvm.Cond.code ({ cls := "com/example/ixora/ixora/web/Page", name := "status", desc := "()I" } : Jvm.MethodName) prog_48_method_9_code (1 : Nat) (Option.some Jvm.ClassFile.FieldType.int)).before args0 about1 = true := code_word (m := ⟨10, 3⟩) (meth := k10m3) (c := k10c3) (by decide +kernel) rfl rfl rfl (by decide +kernel)
set_option maxRecDepth 65536 in
theorem w_c14 : (Jvm.Cond.code ({ cls := "com/example/ixora/ixora/web/Page", name := "template", desc := "()Ljava/lang/String;" } : Jvm.MethodName) prog_48_method_10_code (1 : Nat) (Option.some (Jvm.ClassFile.FieldType.object "java/lang/String"))).before args0 about1 = true := code_word (m := ⟨10, 4⟩) (meth := k10m4) (c := k10c4) (by decide +kernel) rfl rfl rfl (by decide +kernel)
set_option maxRecDepth 65536 in
theorem w_c15 : (Jvm.Cond.code ({ cls := "com/example/ixora/ixora/web/Page", name := "location", desc := "()Ljava/lang/String;" } : Jvm.MethodName) prog_48_method_12_code (1 : Nat) (Option.some (Jvm.ClassFile.FieldType.object "java/lang/String"))).before args0 about1 = true := code_word (m := ⟨10, 6⟩) (meth := k10m6) (c := k10c6) (by decide +kernel) rfl rfl rfl (by decide +kernel)
def codes1 : List Jvm.Cond := [Jvm.Cond.code x code maxLocals ret, Jvm.Cond.code ({ cls := "java/lang/String", name := "<init>", desc := "([C)V" } : Jvm.MethodName) jdk_42_method_3_code (2 : Nat) (Option.none : Option Jvm.ClassFile.FieldType), Jvm.Cond.code ({ cls := "java/lang/String", name := "<init>", desc := "([CIILjava/lang/Void;)V" } : Jvm.MethodName) jdk_42_method_149_code (6 : Nat) (Option.none : Option Jvm.ClassFile.FieldType), Jvm.Cond.code ({ cls := "java/lang/Object", name := "<init>", desc := "()V" } : Jvm.MethodName) object_method_1_code (1 : Nat) (Option.none : Option Jvm.ClassFile.FieldType), Jvm.Cond.code ({ cls := "java/lang/StringUTF16", name := "compress", desc := "([CII)[B" } : Jvm.MethodName) jdk_52_method_16_code (6 : Nat) (Option.some (Jvm.ClassFile.FieldType.array Jvm.ClassFile.FieldType.byte)), Jvm.Cond.code ({ cls := "java/lang/StringUTF16", name := "compress", desc := "([CI[BII)I" } : Jvm.MethodName) jdk_52_method_21_code (7 : Nat) (Option.some Jvm.ClassFile.FieldType.int), Jvm.Cond.code ({ cls := "java/lang/StringUTF16", name := "coderFromArrayLen", desc := "([BI)B" } : Jvm.MethodName) jdk_52_method_15_code (2 : Nat) (Option.some Jvm.ClassFile.FieldType.byte), Jvm.Cond.code ({ cls := "com/example/ixora/ixora/web/Page", name := "seeOther", desc := "(Ljava/lang/String;)Lcom/example/ixora/ixora/web/Page;" } : Jvm.MethodName) prog_48_method_3_code (1 : Nat) (Option.some (Jvm.ClassFile.FieldType.object "com/example/ixora/ixora/web/Page")), Jvm.Cond.code ({ cls := "java/util/Map", name := "of", desc := "()Ljava/util/Map;" } : Jvm.MethodName) jdk_72_method_26_code (0 : Nat) (Option.some (Jvm.ClassFile.FieldType.object "java/util/Map")), Jvm.Cond.code ({ cls := "com/example/ixora/ixora/web/Page", name := "<init>", desc := "(ILjava/lang/String;Ljava/util/Map;Ljava/lang/String;)V" } : Jvm.MethodName) prog_48_method_1_code (5 : Nat) (Option.none : Option Jvm.ClassFile.FieldType), Jvm.Cond.code ({ cls := "java/lang/Record", name := "<init>", desc := "()V" } : Jvm.MethodName) jdk_30_method_1_code (1 : Nat) (Option.none : Option Jvm.ClassFile.FieldType), Jvm.Cond.code ({ cls := "com/example/ixora/ixora/web/Page", name := "model", desc := "()Ljava/util/Map;" } : Jvm.MethodName) prog_48_method_11_code (1 : Nat) (Option.some (Jvm.ClassFile.FieldType.object "java/util/Map")), Jvm.Cond.code ({ cls := "com/example/ixora/ixora/web/Page", name := "withStatus", desc := "(I)Lcom/example/ixora/ixora/web/Page;" } : Jvm.MethodName) prog_48_method_4_code (2 : Nat) (Option.some (Jvm.ClassFile.FieldType.object "com/example/ixora/ixora/web/Page")), Jvm.Cond.code ({ cls := "com/example/ixora/ixora/web/Page", name := "status", desc := "()I" } : Jvm.MethodName) prog_48_method_9_code (1 : Nat) (Option.some Jvm.ClassFile.FieldType.int), Jvm.Cond.code ({ cls := "com/example/ixora/ixora/web/Page", name := "template", desc := "()Ljava/lang/String;" } : Jvm.MethodName) prog_48_method_10_code (1 : Nat) (Option.some (Jvm.ClassFile.FieldType.object "java/lang/String")), Jvm.Cond.code ({ cls := "com/example/ixora/ixora/web/Page", name := "location", desc := "()Ljava/lang/String;" } : Jvm.MethodName) prog_48_method_12_code (1 : Nat) (Option.some (Jvm.ClassFile.FieldType.object "java/lang/String"))]
set_option maxRecDepth 65536 in
theorem codes_eq : words1.filter isCode = codes1 := rfl
theorem w_codes : ∀ c ∈ words1.filter isCode, c.before args0 about1 = true := by
  rw [codes_eq]
  intro c hc
  simp only [codes1, List.mem_cons, List.not_mem_nil, or_false] at hc
  rcases hc with rfl | rfl | rfl | rfl | rfl | rfl | rfl | rfl | rfl | rfl | rfl | rfl | rfl | rfl | rfl | rfl
  · exact w_c0
  · exact w_c1
  · exact w_c2
  · exact w_c3
  · exact w_c4
  · exact w_c5
  · exact w_c6
  · exact w_c7
  · exact w_c8
  · exact w_c9
  · exact w_c10
  · exact w_c11
  · exact w_c12
  · exact w_c13
  · exact w_c14
  · exact w_c15
set_option maxRecDepth 65536 in
theorem w_t1 : (words1.take 24).all (fun c => isCode c || c.before args0 about1) = true := by decide +kernel
set_option maxRecDepth 65536 in
theorem w_t2 : ((words1.drop 24).take 24).all (fun c => isCode c || c.before args0 about1) = true := by decide +kernel
set_option maxRecDepth 65536 in
theorem w_t3 : (((words1.drop 24).drop 24).take 24).all (fun c => isCode c || c.before args0 about1) = true := by decide +kernel
set_option maxRecDepth 65536 in
theorem w_t4 : (((words1.drop 24).drop 24).drop 24).all (fun c => isCode c || c.before args0 about1) = true := by decide +kernel
theorem w_tables : (allAtoms (Jvm.Cond.code x code maxLocals ret :: tables_1)).before args0 about1 = true := by
  rw [allAtoms_all]
  show words1.all (fun c => c.before args0 about1) = true
  refine all_split ?_ w_codes
  rw [← List.take_append_drop 24 words1, List.all_append, w_t1, ← List.take_append_drop 24 (words1.drop 24), List.all_append, w_t2, ← List.take_append_drop 24 ((words1.drop 24).drop 24), List.all_append, w_t3, w_t4]
  rfl
set_option maxRecDepth 65536 in
theorem w_rest : rest_1_c.before args0 about1 = true := by decide +kernel
set_option maxRecDepth 65536 in
theorem w_case : (Jvm.Cond.and given_1 narrow_1).before args0 about1 = true := by decide +kernel
theorem w_applies : (headSpec (Jvm.Cond.code x code maxLocals ret :: tables_1) room_1).applies x e0.platform about1 = true :=
  (Spec.applies_iff w_frames).mpr ⟨w_running, w_runnable, w_alone, w_named, w_hears, w_ripe, w_room, w_tables⟩
theorem atStart : AtStart classFile x code maxLocals ret World_1 tables_1 room_1 Calls_1 rest_1 Pre_1 launch0 p0 e0 about1 theMethod args0 below0 :=
  ⟨lists_1, trivial, launch0.admits_env _ _ _, launch0.least_env, fairChoices_fair.cas, fairChoices_fair.clock, w_frames, w_args, w_heap, w_applies, trivial, w_rest, w_case⟩
end start1
theorem witness_1 : WitnessClaimed_1 := ⟨start1.p0, start1.e0, start1.about1, start1.theMethod, start1.args0, start1.below0, start1.atStart⟩
end Jvm.Pilot.@@N@@
