import JvmDerived
import JvmDerived.Pilot.@@N@@Statement
import JvmDerived.Pilot.@@N@@Code
set_option linter.unusedVariables false
set_option linter.unusedSimpArgs false
namespace Jvm.Pilot.@@N@@
open Jvm Jvm.ClassFile Sem Op Lib Jvm.Free Jvm.Stand Jvm.LawKit Jvm.RoadKit Bundle Jvm.Pilot.@@N@@.Jvm.D
/-- from the point (T, g) the body comes to its end, with what P says of value, heap and places -/
def own_E (p : Program) (e : Env) (below : List Frame) (s : State) (k n : Nat) (P : Option Value → Heap → List Loc → Prop) (T : State) (g : JFrame) : Prop :=
  ∃ s₂ o, Steps p.tables e below (T.setTop g) s₂ ∧ s₂.status = .running ∧ Ended s₂ below o ∧ ∃ v L, o = .returned v ∧ P v s₂.heap L ∧ FrameEnd s o s₂ L k n
/-- what a law leaves: true, and nothing old written -/
def own_L (n0 : Nat) (v : Option Value) (h : Heap) (L : List Loc) : Prop := v = some (.int (1 : Int32)) ∧ Fr n0 L
section Own
variable {p : Program} {l : Launch} {e : Env} {R : Room} {s : State} {m : MethodId} {args : Array Value} {below : List Frame} {meth : Method} {c : Code} {T T' : State} {locs : List Loc} {cells slots : Nat} {k n : Nat} {P : Option Value → Heap → List Loc → Prop} {g g' : JFrame}
theorem own_st (h : ∀ t, Steps p.tables e below (T'.setTop g') t → Steps p.tables e below (T.setTop g) t) (E : own_E p e below s k n P T' g') : own_E p e below s k n P T g := by
  obtain ⟨s₂, o, h1, r⟩ := E; exact ⟨s₂, o, h _ h1, r⟩
theorem own_end (X : Stand p l e R s m args below meth c T locs cells slots) {v : Option Value} (hv : meth.sig.returnType = none → v = none) (hlk : meth.locks = false) (hk : cells ≤ k) (hn : slots ≤ n) (hP : P v T.heap locs)
    (h : ∀ fs : List Frame, (∀ (f : JFrame) (acts : List Action), f.method = m → f.locked = none → f.entered = [] → (doReturn e (T.setTop f) acts v).1 = T.setFrames fs) → Steps p.tables e below (T.setTop g) (T.setFrames fs)) : own_E p e below s k n P T g := by
  obtain ⟨fs, hr, hrun, hended, hW, hsame⟩ := X.leave (v := v) hv hlk
  exact ⟨_, _, h fs hr, hrun, hended, _, _, rfl, hP, ⟨_, rfl⟩, hW, hsame.mono hk hn⟩
theorem own_retV (X : Stand p l e R s m args below meth c T locs cells slots) (hx : p.tables.exec = Jvm.exec) (hret : meth.sig.returnType = none) (hlk : meth.locks = false) {pc : Nat} {Ls : Array Slot} (hd : decode c.code pc = .ok (.return_, 1)) (hk : cells ≤ k) (hn : slots ≤ n) (hP : P none T.heap locs) : own_E p e below s k n P T (mkF m pc Ls []) :=
  own_end X (fun _ => rfl) hlk hk hn hP fun _ hr => X.returnOut hx hret hd hr
theorem own_retN (X : Stand p l e R s m args below meth c T locs cells slots) (hx : p.tables.exec = Jvm.exec) {t : FieldType} (hret : meth.sig.returnType = some t) (ht : t = .boolean ∨ t = .byte ∨ t = .char ∨ t = .short) (hlk : meth.locks = false) {pc : Nat} {Ls : Array Slot} {z : Int32} {rest : List Value} (hd : decode c.code pc = .ok (.ireturn, 1)) (hk : cells ≤ k) (hn : slots ≤ n) (hP : P (some (.int (nar t z))) T.heap locs) : own_E p e below s k n P T (mkF m pc Ls (.int z :: rest)) :=
  own_end X (fun h => by rw [hret] at h; cases h) hlk hk hn hP fun _ hr => retN X hx hret ht hd hr
theorem own_retI (X : Stand p l e R s m args below meth c T locs cells slots) (hx : p.tables.exec = Jvm.exec) (hret : meth.sig.returnType = some .int) (hlk : meth.locks = false) {pc : Nat} {Ls : Array Slot} {z : Int32} {rest : List Value} (hd : decode c.code pc = .ok (.ireturn, 1)) (hk : cells ≤ k) (hn : slots ≤ n) (hP : P (some (.int z)) T.heap locs) : own_E p e below s k n P T (mkF m pc Ls (.int z :: rest)) :=
  own_end X (fun h => by rw [hret] at h; cases h) hlk hk hn hP fun _ hr => retOut X hx hret rfl (Or.inl ⟨rfl, Or.inl rfl, z, rfl⟩) hd hr
theorem own_retL (X : Stand p l e R s m args below meth c T locs cells slots) (hx : p.tables.exec = Jvm.exec) (hret : meth.sig.returnType = some .long) (hlk : meth.locks = false) {pc : Nat} {Ls : Array Slot} {z : Int64} {rest : List Value} (hd : decode c.code pc = .ok (.lreturn, 1)) (hk : cells ≤ k) (hn : slots ≤ n) (hP : P (some (.long z)) T.heap locs) : own_E p e below s k n P T (mkF m pc Ls (.long z :: rest)) :=
  own_end X (fun h => by rw [hret] at h; cases h) hlk hk hn hP fun _ hr => retOut X hx hret rfl (Or.inr (Or.inl ⟨rfl, rfl, z, rfl⟩)) hd hr
theorem own_narR {t : FieldType} {v : Value} (ht : t.isReference = true) : narrow t v = v := by cases t <;> first | (cases ht; done) | (cases v <;> rfl)
theorem own_fitR {t : FieldType} {v : Value} (h : v.isRef = true) (ht : t.isReference = true) : fits t v = true := by cases t <;> first | (cases ht; done) | (cases v <;> first | (cases h; done) | rfl)
theorem own_retA (X : Stand p l e R s m args below meth c T locs cells slots) (hx : p.tables.exec = Jvm.exec) {t : FieldType} (hret : meth.sig.returnType = some t) (ht : t.isReference = true) {w : Value} (hw : w.isRef = true) (hlk : meth.locks = false) {pc : Nat} {Ls : Array Slot} {rest : List Value} (hd : decode c.code pc = .ok (.areturn, 1)) (hk : cells ≤ k) (hn : slots ≤ n) (hP : P (some w) T.heap locs) : own_E p e below s k n P T (mkF m pc Ls (w :: rest)) :=
  own_end X (fun h => by rw [hret] at h; cases h) hlk hk hn hP fun _ hr => retOut X hx hret (own_narR ht) (Or.inr (Or.inr (Or.inr (Or.inr ⟨rfl, ht, hw⟩)))) hd hr
end Own
theorem own_z {Z : State} {n0 : Nat} {h : Heap} (O : Old Z n0 h) : n0 ≤ h.size := O.1 ▸ O.2.1
theorem own_oldlt {Z : State} {n0 : Nat} {h : Heap} {a : Addr} (O : Old Z n0 h) (q : a < Z.heap.size) : a < h.size := Nat.lt_of_lt_of_le q O.2.1
theorem own_ext {h h' : Heap} (K : Keep h h' []) : Ext h h' := ⟨K.1, fun x c q => K.2.1 x c q nin0⟩
theorem own_fld0 {args : Array Value} {Z : State} {t : Term} {a : Addr} {C n d : String} {k : Int32} (ev : t.eval args Z none [] Z = some (.ref a)) (h : (Jvm.Cond.eq (Term.field t C n d) (Term.int k)).value args Z none Z [] = some true) : Fld Z Z.heap a C n d (.int k) := by
  cases hv : Z.fieldOf? a C n d with
  | none => simp [Cond.value, Term.eval, ev, hv] at h
  | some x => cases x <;> simp [Cond.value, Term.eval, ev, hv] at h; subst h; exact Fld.start hv
theorem own_nz {args : Array Value} {Z : State} {t : Term} {cz : Int32} (ev : t.eval args Z none [] Z = some (.int cz)) (h : (Jvm.Cond.not (Jvm.Cond.eq t (Term.int (0 : Int32)))).value args Z none Z [] = some true) : ¬ cz = (0 : Int32) := by
  simpa [Cond.value, ev, Term.eval] using h
theorem own_neF {Z : State} {h : Heap} {a b : Addr} {C n d : String} {x y : Value} (F : Fld Z h a C n d x) (G : Fld Z h b C n d y) (q : x ≠ y) : a ≠ b := fun e => by
  subst e
  obtain ⟨c1, cf1, k1, i1, f1, h1, h2, -, -, -, -, h7⟩ := F
  obtain ⟨c2, cf2, k2, i2, f2, g1, g2, -, -, -, -, g7⟩ := G
  cases h1.symm.trans g1
  cases h2.symm.trans g2
  exact q (Option.some.inj (h7.symm.trans g7))
theorem own_rem (x y : Int32) (d : Int) (hd : 0 < d) (hy : y.toInt = d) : 0 ≤ ((x &&& 2147483647) % y).toInt ∧ ((x &&& 2147483647) % y).toInt < d := by
  have h1 := (c_andS x 2147483647).2.2 (by decide)
  have h2 := (c_irem (x &&& 2147483647) y d hy).1 h1
  rw [h2]; exact ⟨Int.emod_nonneg _ (by omega), Int.emod_lt_of_pos _ hd⟩
theorem own_nc (x : Int32) : nar .char ((x &&& 255).toUInt32.toUInt16.toUInt32.toInt32) = x &&& 255 := by
  show ((x &&& 255).toUInt32.toUInt16.toUInt32.toInt32).toUInt32.toUInt16.toUInt32.toInt32 = _
  rw [i2c_mask, i2c_mask]
theorem own_r255 (x : Int32) : ¬ (x &&& 255) < (0 : Int32) ∧ ¬ (255 : Int32) < (x &&& 255) := by
  have e := c_mask x 255 8 (by decide) (by decide)
  have z0 : (0 : Int32).toInt = 0 := rfl
  have z1 : (255 : Int32).toInt = 255 := rfl
  have z2 : ((2 ^ 8 : Nat) : Int) = 256 := rfl
  constructor <;> rw [Int32.lt_iff_toInt_lt] <;> omega
theorem own_c255 (x : Int32) : ¬ (255 : Int32) < nar .char ((x &&& 255).toUInt32.toUInt16.toUInt32.toInt32) := by rw [own_nc]; exact (own_r255 x).2
theorem own_eqI {x y : Int32} (h : x.toInt = y.toInt) : x = y := Int32.toInt_inj.mp h
def own_pick (k : Int32) (w0 w1 w2 w3 w4 w5 w6 w7 : Addr) : Addr := if k = 0 then w0 else if k = 1 then w1 else if k = 2 then w2 else if k = 3 then w3 else if k = 4 then w4 else if k = 5 then w5 else if k = 6 then w6 else w7
def own_D (w0 w1 w2 w3 w4 w5 w6 w7 : Addr) : Prop := w1 ≠ w0 ∧ w2 ≠ w0 ∧ w3 ≠ w0 ∧ w4 ≠ w0 ∧ w5 ≠ w0 ∧ w6 ≠ w0 ∧ w7 ≠ w0 ∧ w0 ≠ w2 ∧ w1 ≠ w2 ∧ w3 ≠ w2 ∧ w4 ≠ w2 ∧ w5 ≠ w2 ∧ w6 ≠ w2 ∧ w7 ≠ w2
theorem own_k8 (x : Int32) : ∃ k : Int32, (x &&& 2147483647) % 8 = k ∧ (k = 0 ∨ k = 1 ∨ k = 2 ∨ k = 3 ∨ k = 4 ∨ k = 5 ∨ k = 6 ∨ k = 7) := by
  refine ⟨_, rfl, ?_⟩
  obtain ⟨h1, h2⟩ := own_rem x 8 8 (by decide) (by decide)
  generalize (x &&& 2147483647) % 8 = k at *
  have h : k.toInt = 0 ∨ k.toInt = 1 ∨ k.toInt = 2 ∨ k.toInt = 3 ∨ k.toInt = 4 ∨ k.toInt = 5 ∨ k.toInt = 6 ∨ k.toInt = 7 := by omega
  rcases h with h | h | h | h | h | h | h | h
  · exact Or.inl (own_eqI h)
  · exact Or.inr (Or.inl (own_eqI h))
  · exact Or.inr (Or.inr (Or.inl (own_eqI h)))
  · exact Or.inr (Or.inr (Or.inr (Or.inl (own_eqI h))))
  · exact Or.inr (Or.inr (Or.inr (Or.inr (Or.inl (own_eqI h)))))
  · exact Or.inr (Or.inr (Or.inr (Or.inr (Or.inr (Or.inl (own_eqI h))))))
  · exact Or.inr (Or.inr (Or.inr (Or.inr (Or.inr (Or.inr (Or.inl (own_eqI h)))))))
  · exact Or.inr (Or.inr (Or.inr (Or.inr (Or.inr (Or.inr (Or.inr (own_eqI h)))))))
theorem own_key (x : Int32) (w0 w1 w2 w3 w4 w5 w6 w7 : Addr) (D : own_D w0 w1 w2 w3 w4 w5 w6 w7) : (if own_pick ((x &&& 2147483647) % 8) w0 w1 w2 w3 w4 w5 w6 w7 = w2 ∨ own_pick ((x &&& 2147483647) % 8) w0 w1 w2 w3 w4 w5 w6 w7 = w0 then (1 : Int32) else 0) = if (x &&& 2147483647) % 8 = 0 ∨ (x &&& 2147483647) % 8 = 2 then 1 else 0 := by
  obtain ⟨k, e, hk⟩ := own_k8 x
  rw [e]
  obtain ⟨d1, d2, d3, d4, d5, d6, d7, e0, e1, e3, e4, e5, e6, e7⟩ := D
  rcases hk with rfl | rfl | rfl | rfl | rfl | rfl | rfl | rfl <;> simp +decide [own_pick, d1, d2, d3, d4, d5, d6, d7, e0, e1, e3, e4, e5, e6, e7]
theorem own_isC (k : Int32) (w0 w1 w2 w3 w4 w5 w6 w7 : Addr) {Z : State} {K : String} (h0 : Exa Z Z.heap w0 K) (h1 : Exa Z Z.heap w1 K) (h2 : Exa Z Z.heap w2 K) (h3 : Exa Z Z.heap w3 K) (h4 : Exa Z Z.heap w4 K) (h5 : Exa Z Z.heap w5 K) (h6 : Exa Z Z.heap w6 K) (h7 : Exa Z Z.heap w7 K) : Exa Z Z.heap (own_pick k w0 w1 w2 w3 w4 w5 w6 w7) K := by
  unfold own_pick; repeat' split
  all_goals assumption
theorem d1_0 : decode method_3_code 0 = .ok (.iload_n 0, 1) := by decide +kernel
theorem d1_1 : decode method_3_code 1 = .ok (.ifCond .ne 7, 3) := by decide +kernel
theorem d1_4 : decode method_3_code 4 = .ok (.getstatic 20, 3) := by decide +kernel
theorem d1_7 : decode method_3_code 7 = .ok (.areturn, 1) := by decide +kernel
theorem d1_8 : decode method_3_code 8 = .ok (.iload_n 0, 1) := by decide +kernel
theorem d1_9 : decode method_3_code 9 = .ok (.iconst 1, 1) := by decide +kernel
theorem d1_10 : decode method_3_code 10 = .ok (.if_icmp .ne 7, 3) := by decide +kernel
theorem d1_13 : decode method_3_code 13 = .ok (.getstatic 24, 3) := by decide +kernel
theorem d1_16 : decode method_3_code 16 = .ok (.areturn, 1) := by decide +kernel
theorem d1_17 : decode method_3_code 17 = .ok (.iload_n 0, 1) := by decide +kernel
theorem d1_18 : decode method_3_code 18 = .ok (.iconst 2, 1) := by decide +kernel
theorem d1_19 : decode method_3_code 19 = .ok (.if_icmp .ne 7, 3) := by decide +kernel
theorem d1_22 : decode method_3_code 22 = .ok (.getstatic 27, 3) := by decide +kernel
theorem d1_25 : decode method_3_code 25 = .ok (.areturn, 1) := by decide +kernel
theorem d1_26 : decode method_3_code 26 = .ok (.iload_n 0, 1) := by decide +kernel
theorem d1_27 : decode method_3_code 27 = .ok (.iconst 3, 1) := by decide +kernel
theorem d1_28 : decode method_3_code 28 = .ok (.if_icmp .ne 7, 3) := by decide +kernel
theorem d1_31 : decode method_3_code 31 = .ok (.getstatic 30, 3) := by decide +kernel
theorem d1_34 : decode method_3_code 34 = .ok (.areturn, 1) := by decide +kernel
theorem d1_35 : decode method_3_code 35 = .ok (.iload_n 0, 1) := by decide +kernel
theorem d1_36 : decode method_3_code 36 = .ok (.iconst 4, 1) := by decide +kernel
theorem d1_37 : decode method_3_code 37 = .ok (.if_icmp .ne 7, 3) := by decide +kernel
theorem d1_40 : decode method_3_code 40 = .ok (.getstatic 33, 3) := by decide +kernel
theorem d1_43 : decode method_3_code 43 = .ok (.areturn, 1) := by decide +kernel
theorem d1_44 : decode method_3_code 44 = .ok (.iload_n 0, 1) := by decide +kernel
theorem d1_45 : decode method_3_code 45 = .ok (.iconst 5, 1) := by decide +kernel
theorem d1_46 : decode method_3_code 46 = .ok (.if_icmp .ne 7, 3) := by decide +kernel
theorem d1_49 : decode method_3_code 49 = .ok (.getstatic 36, 3) := by decide +kernel
theorem d1_52 : decode method_3_code 52 = .ok (.areturn, 1) := by decide +kernel
theorem d1_53 : decode method_3_code 53 = .ok (.iload_n 0, 1) := by decide +kernel
theorem d1_54 : decode method_3_code 54 = .ok (.bipush 6, 2) := by decide +kernel
theorem d1_56 : decode method_3_code 56 = .ok (.if_icmp .ne 7, 3) := by decide +kernel
theorem d1_59 : decode method_3_code 59 = .ok (.getstatic 39, 3) := by decide +kernel
theorem d1_62 : decode method_3_code 62 = .ok (.areturn, 1) := by decide +kernel
theorem d1_63 : decode method_3_code 63 = .ok (.getstatic 42, 3) := by decide +kernel
theorem d1_66 : decode method_3_code 66 = .ok (.areturn, 1) := by decide +kernel
theorem pn_0 : plainName "com/example/sheafgate/sheafgate/oai/ErrorCodeRejectsRequestPinLaw" = true := by first | (simp [plainName, overriddenIn]; done) | decide +kernel
theorem ef_pick (m : MethodId) (x0 : Int32) : entryFrame m #[(.int x0)] 1 = mkF m 0 #[.val (.int x0)] [] := by first | (simp [entryFrame, mkF, argsToLocals, Value.category]; done) | rfl
def Q_pick (Z : State) (k : Int32) (w0 : Addr) (w1 : Addr) (w2 : Addr) (w3 : Addr) (w4 : Addr) (w5 : Addr) (w6 : Addr) (w7 : Addr) (h0 : Heap) (n0 : Nat) (v : Option Value) (h : Heap) (L : List Loc) : Prop := (v = some (.ref (own_pick k w0 w1 w2 w3 w4 w5 w6 w7))) ∧ (Fr n0 L) ∧ (h = h0)
set_option maxRecDepth 65536 in
set_option maxHeartbeats 40000000 in
theorem rm_pick (l : Launch) (Z : State) (a0 : Array Value) (hw : ∀ d ∈ tables_1, d.before a0 Z = true) (ws : List Jvm.Cond) (k : Int32) (w0 : Addr) (w1 : Addr) (w2 : Addr) (w3 : Addr) (w4 : Addr) (w5 : Addr) (w6 : Addr) (w7 : Addr) (h0 : Heap) (n0 : Nat) (O0 : Old Z n0 h0) (S0 : Sta Z Z.heap "com/example/sheafgate/sheafgate/oai/OaiException$ErrorCode" "BAD_ARGUMENT" "Lcom/example/sheafgate/sheafgate/oai/OaiException$ErrorCode;" (.ref w0)) (S1 : Sta Z Z.heap "com/example/sheafgate/sheafgate/oai/OaiException$ErrorCode" "BAD_RESUMPTION_TOKEN" "Lcom/example/sheafgate/sheafgate/oai/OaiException$ErrorCode;" (.ref w1)) (S2 : Sta Z Z.heap "com/example/sheafgate/sheafgate/oai/OaiException$ErrorCode" "BAD_VERB" "Lcom/example/sheafgate/sheafgate/oai/OaiException$ErrorCode;" (.ref w2)) (S3 : Sta Z Z.heap "com/example/sheafgate/sheafgate/oai/OaiException$ErrorCode" "CANNOT_DISSEMINATE_FORMAT" "Lcom/example/sheafgate/sheafgate/oai/OaiException$ErrorCode;" (.ref w3)) (S4 : Sta Z Z.heap "com/example/sheafgate/sheafgate/oai/OaiException$ErrorCode" "ID_DOES_NOT_EXIST" "Lcom/example/sheafgate/sheafgate/oai/OaiException$ErrorCode;" (.ref w4)) (S5 : Sta Z Z.heap "com/example/sheafgate/sheafgate/oai/OaiException$ErrorCode" "NO_RECORDS_MATCH" "Lcom/example/sheafgate/sheafgate/oai/OaiException$ErrorCode;" (.ref w5)) (S6 : Sta Z Z.heap "com/example/sheafgate/sheafgate/oai/OaiException$ErrorCode" "NO_METADATA_FORMATS" "Lcom/example/sheafgate/sheafgate/oai/OaiException$ErrorCode;" (.ref w6)) (S7 : Sta Z Z.heap "com/example/sheafgate/sheafgate/oai/OaiException$ErrorCode" "NO_SET_HIERARCHY" "Lcom/example/sheafgate/sheafgate/oai/OaiException$ErrorCode;" (.ref w7)) :
    MetFree l (⟨"com/example/sheafgate/sheafgate/oai/ErrorCodeRejectsRequestPinLaw", "pick", "(I)Lcom/example/sheafgate/sheafgate/oai/OaiException$ErrorCode;"⟩ : MethodName) (head1 (Jvm.Cond.code (⟨"com/example/sheafgate/sheafgate/oai/ErrorCodeRejectsRequestPinLaw", "pick", "(I)Lcom/example/sheafgate/sheafgate/oai/OaiException$ErrorCode;"⟩ : MethodName) method_3_code 1 (some (.object "com/example/sheafgate/sheafgate/oai/OaiException$ErrorCode")) :: ws) ({ frames := 0, cells := 0, slots := 0, locals := 0 } : Room)) (fun ar_ U => ar_ = #[(.int k)] ∧ Z.Warmed39 U.vm ∧ U.heap = h0) (fun _ _ _ _ _ => True) (fun _ U o U' => ∃ v L, o = .returned v ∧ Q_pick Z k w0 w1 w2 w3 w4 w5 w6 w7 h0 n0 v U'.heap L ∧ FrameEnd U o U' L ({ frames := 0, cells := 0, slots := 0, locals := 0 } : Room).cells ({ frames := 0, cells := 0, slots := 0, locals := 0 } : Room).slots) := by
  refine MetFree.of_bodySF (plainFor_of_name pn_0) hisR ?_
  intro p e s m args below meth c s₁ Bd hml0 hP hK
  obtain ⟨rfl, hZ, hh⟩ := hP
  have hx := Bd.exec
  have hby := Bd.bytes
  have hml : c.maxLocals = 1 := hml0
  have hown : s.vm.findClass "com/example/sheafgate/sheafgate/oai/ErrorCodeRejectsRequestPinLaw" = some m.cls := findClass_of_methodNamed Bd.named
  have hnm := (name_of_methodNamed Bd.named Bd.method).1
  have X0 : Stand p l e ({ frames := 0, cells := 0, slots := 0, locals := 0 } : Room) s m #[(.int k)] below meth c s₁ [] 0 0 := Stand.of_body Bd
  have e0 : s₁.heap = h0 := by rw [← hh, Bd.state]; rfl
  have N0 := Fr.nil n0
  have hret := Bd.returns
  have hlk : meth.locks = false := Bd.notSynchronized
  show own_E p e below s ({ frames := 0, cells := 0, slots := 0, locals := 0 } : Room).cells ({ frames := 0, cells := 0, slots := 0, locals := 0 } : Room).slots (Q_pick Z k w0 w1 w2 w3 w4 w5 w6 w7 h0 n0) s₁ (entryFrame m #[(.int k)] 1)
  rw [ef_pick m k]
  refine own_st (T' := s₁) (g' := (mkF m 1 #[.val (.int k)] [(.int k)])) (fun t_ k_ => XS.iloadN X0.here hx rfl (hb hby d1_0) rfl  k_) ?_
  by_cases hc1 : k = (0 : Int32)
  · refine own_st (T' := s₁) (g' := (mkF m 4 #[.val (.int k)] [])) (fun t_ k_ => XS.ifNo X0.here hx rfl (hb hby d1_1) rfl ((if0 _ _).trans (teq hc1).2) k_) ?_
    obtain ⟨T2, X2, e2, st2⟩ := getS2 X0 hx hZ hown (host := "") (Or.inl (hw _ (List.mem_of_getElem? (i := 5) rfl))) Via.refl e0 (S0.ext O0.2) (g := (mkF m 4 #[.val (.int k)] [])) rfl (hb hby d1_4)
    refine own_st (T' := T2) (g' := (mkF m 7 #[.val (.int k)] [(.ref w0)])) st2 ?_
    exact own_retA X2 hx hret rfl rfl hlk (hb hby d1_7) (by decide) (by decide) ⟨(by simp [own_pick, hc1]), N0, e2⟩
  · refine own_st (T' := s₁) (g' := (mkF m 8 #[.val (.int k)] [])) (fun t_ k_ => XS.ifYes X0.here hx rfl (pc0 := 1) (pc' := 8) rfl (hb hby d1_1) rfl ((if0 _ _).trans (feq hc1).2) (by decide) (by decide) k_) ?_
    refine own_st (T' := s₁) (g' := (mkF m 9 #[.val (.int k)] [(.int k)])) (fun t_ k_ => XS.iloadN X0.here hx rfl (hb hby d1_8) rfl  k_) ?_
    refine own_st (T' := s₁) (g' := (mkF m 10 #[.val (.int k)] [(.int (1 : Int32)), (.int k)])) (fun t_ k_ => XS.iconst X0.here hx rfl (hb hby d1_9) k_) ?_
    by_cases hc3 : k = (1 : Int32)
    · refine own_st (T' := s₁) (g' := (mkF m 13 #[.val (.int k)] [])) (fun t_ k_ => XS.icmpNo X0.here hx rfl (hb hby d1_10) rfl (teq hc3).2 k_) ?_
      obtain ⟨T4, X4, e4, st4⟩ := getS2 X0 hx hZ hown (host := "") (Or.inl (hw _ (List.mem_of_getElem? (i := 23) rfl))) Via.refl e0 (S1.ext O0.2) (g := (mkF m 13 #[.val (.int k)] [])) rfl (hb hby d1_13)
      refine own_st (T' := T4) (g' := (mkF m 16 #[.val (.int k)] [(.ref w1)])) st4 ?_
      exact own_retA X4 hx hret rfl rfl hlk (hb hby d1_16) (by decide) (by decide) ⟨(by simp [own_pick, hc1, hc3]), N0, e4⟩
    · refine own_st (T' := s₁) (g' := (mkF m 17 #[.val (.int k)] [])) (fun t_ k_ => XS.icmpYes X0.here hx rfl (pc0 := 10) (pc' := 17) rfl (hb hby d1_10) rfl (feq hc3).2 (by decide) (by decide) k_) ?_
      refine own_st (T' := s₁) (g' := (mkF m 18 #[.val (.int k)] [(.int k)])) (fun t_ k_ => XS.iloadN X0.here hx rfl (hb hby d1_17) rfl  k_) ?_
      refine own_st (T' := s₁) (g' := (mkF m 19 #[.val (.int k)] [(.int (2 : Int32)), (.int k)])) (fun t_ k_ => XS.iconst X0.here hx rfl (hb hby d1_18) k_) ?_
      by_cases hc5 : k = (2 : Int32)
      · refine own_st (T' := s₁) (g' := (mkF m 22 #[.val (.int k)] [])) (fun t_ k_ => XS.icmpNo X0.here hx rfl (hb hby d1_19) rfl (teq hc5).2 k_) ?_
        obtain ⟨T6, X6, e6, st6⟩ := getS2 X0 hx hZ hown (host := "") (Or.inl (hw _ (List.mem_of_getElem? (i := 22) rfl))) Via.refl e0 (S2.ext O0.2) (g := (mkF m 22 #[.val (.int k)] [])) rfl (hb hby d1_22)
        refine own_st (T' := T6) (g' := (mkF m 25 #[.val (.int k)] [(.ref w2)])) st6 ?_
        exact own_retA X6 hx hret rfl rfl hlk (hb hby d1_25) (by decide) (by decide) ⟨(by simp [own_pick, hc1, hc3, hc5]), N0, e6⟩
      · refine own_st (T' := s₁) (g' := (mkF m 26 #[.val (.int k)] [])) (fun t_ k_ => XS.icmpYes X0.here hx rfl (pc0 := 19) (pc' := 26) rfl (hb hby d1_19) rfl (feq hc5).2 (by decide) (by decide) k_) ?_
        refine own_st (T' := s₁) (g' := (mkF m 27 #[.val (.int k)] [(.int k)])) (fun t_ k_ => XS.iloadN X0.here hx rfl (hb hby d1_26) rfl  k_) ?_
        refine own_st (T' := s₁) (g' := (mkF m 28 #[.val (.int k)] [(.int (3 : Int32)), (.int k)])) (fun t_ k_ => XS.iconst X0.here hx rfl (hb hby d1_27) k_) ?_
        by_cases hc7 : k = (3 : Int32)
        · refine own_st (T' := s₁) (g' := (mkF m 31 #[.val (.int k)] [])) (fun t_ k_ => XS.icmpNo X0.here hx rfl (hb hby d1_28) rfl (teq hc7).2 k_) ?_
          obtain ⟨T8, X8, e8, st8⟩ := getS2 X0 hx hZ hown (host := "") (Or.inl (hw _ (List.mem_of_getElem? (i := 16) rfl))) Via.refl e0 (S3.ext O0.2) (g := (mkF m 31 #[.val (.int k)] [])) rfl (hb hby d1_31)
          refine own_st (T' := T8) (g' := (mkF m 34 #[.val (.int k)] [(.ref w3)])) st8 ?_
          exact own_retA X8 hx hret rfl rfl hlk (hb hby d1_34) (by decide) (by decide) ⟨(by simp [own_pick, hc1, hc3, hc5, hc7]), N0, e8⟩
        · refine own_st (T' := s₁) (g' := (mkF m 35 #[.val (.int k)] [])) (fun t_ k_ => XS.icmpYes X0.here hx rfl (pc0 := 28) (pc' := 35) rfl (hb hby d1_28) rfl (feq hc7).2 (by decide) (by decide) k_) ?_
          refine own_st (T' := s₁) (g' := (mkF m 36 #[.val (.int k)] [(.int k)])) (fun t_ k_ => XS.iloadN X0.here hx rfl (hb hby d1_35) rfl  k_) ?_
          refine own_st (T' := s₁) (g' := (mkF m 37 #[.val (.int k)] [(.int (4 : Int32)), (.int k)])) (fun t_ k_ => XS.iconst X0.here hx rfl (hb hby d1_36) k_) ?_
          by_cases hc9 : k = (4 : Int32)
          · refine own_st (T' := s₁) (g' := (mkF m 40 #[.val (.int k)] [])) (fun t_ k_ => XS.icmpNo X0.here hx rfl (hb hby d1_37) rfl (teq hc9).2 k_) ?_
            obtain ⟨T10, X10, e10, st10⟩ := getS2 X0 hx hZ hown (host := "") (Or.inl (hw _ (List.mem_of_getElem? (i := 25) rfl))) Via.refl e0 (S4.ext O0.2) (g := (mkF m 40 #[.val (.int k)] [])) rfl (hb hby d1_40)
            refine own_st (T' := T10) (g' := (mkF m 43 #[.val (.int k)] [(.ref w4)])) st10 ?_
            exact own_retA X10 hx hret rfl rfl hlk (hb hby d1_43) (by decide) (by decide) ⟨(by simp [own_pick, hc1, hc3, hc5, hc7, hc9]), N0, e10⟩
          · refine own_st (T' := s₁) (g' := (mkF m 44 #[.val (.int k)] [])) (fun t_ k_ => XS.icmpYes X0.here hx rfl (pc0 := 37) (pc' := 44) rfl (hb hby d1_37) rfl (feq hc9).2 (by decide) (by decide) k_) ?_
            refine own_st (T' := s₁) (g' := (mkF m 45 #[.val (.int k)] [(.int k)])) (fun t_ k_ => XS.iloadN X0.here hx rfl (hb hby d1_44) rfl  k_) ?_
            refine own_st (T' := s₁) (g' := (mkF m 46 #[.val (.int k)] [(.int (5 : Int32)), (.int k)])) (fun t_ k_ => XS.iconst X0.here hx rfl (hb hby d1_45) k_) ?_
            by_cases hc11 : k = (5 : Int32)
            · refine own_st (T' := s₁) (g' := (mkF m 49 #[.val (.int k)] [])) (fun t_ k_ => XS.icmpNo X0.here hx rfl (hb hby d1_46) rfl (teq hc11).2 k_) ?_
              obtain ⟨T12, X12, e12, st12⟩ := getS2 X0 hx hZ hown (host := "") (Or.inl (hw _ (List.mem_of_getElem? (i := 27) rfl))) Via.refl e0 (S5.ext O0.2) (g := (mkF m 49 #[.val (.int k)] [])) rfl (hb hby d1_49)
              refine own_st (T' := T12) (g' := (mkF m 52 #[.val (.int k)] [(.ref w5)])) st12 ?_
              exact own_retA X12 hx hret rfl rfl hlk (hb hby d1_52) (by decide) (by decide) ⟨(by simp [own_pick, hc1, hc3, hc5, hc7, hc9, hc11]), N0, e12⟩
            · refine own_st (T' := s₁) (g' := (mkF m 53 #[.val (.int k)] [])) (fun t_ k_ => XS.icmpYes X0.here hx rfl (pc0 := 46) (pc' := 53) rfl (hb hby d1_46) rfl (feq hc11).2 (by decide) (by decide) k_) ?_
              refine own_st (T' := s₁) (g' := (mkF m 54 #[.val (.int k)] [(.int k)])) (fun t_ k_ => XS.iloadN X0.here hx rfl (hb hby d1_53) rfl  k_) ?_
              refine own_st (T' := s₁) (g' := (mkF m 56 #[.val (.int k)] [(.int (6 : Int32)), (.int k)])) (fun t_ k_ => XS.bipush X0.here hx rfl (hb hby d1_54) k_) ?_
              by_cases hc13 : k = (6 : Int32)
              · refine own_st (T' := s₁) (g' := (mkF m 59 #[.val (.int k)] [])) (fun t_ k_ => XS.icmpNo X0.here hx rfl (hb hby d1_56) rfl (teq hc13).2 k_) ?_
                obtain ⟨T14, X14, e14, st14⟩ := getS2 X0 hx hZ hown (host := "") (Or.inl (hw _ (List.mem_of_getElem? (i := 18) rfl))) Via.refl e0 (S6.ext O0.2) (g := (mkF m 59 #[.val (.int k)] [])) rfl (hb hby d1_59)
                refine own_st (T' := T14) (g' := (mkF m 62 #[.val (.int k)] [(.ref w6)])) st14 ?_
                exact own_retA X14 hx hret rfl rfl hlk (hb hby d1_62) (by decide) (by decide) ⟨(by simp [own_pick, hc1, hc3, hc5, hc7, hc9, hc11, hc13]), N0, e14⟩
              · refine own_st (T' := s₁) (g' := (mkF m 63 #[.val (.int k)] [])) (fun t_ k_ => XS.icmpYes X0.here hx rfl (pc0 := 56) (pc' := 63) rfl (hb hby d1_56) rfl (feq hc13).2 (by decide) (by decide) k_) ?_
                obtain ⟨T15, X15, e15, st15⟩ := getS2 X0 hx hZ hown (host := "") (Or.inl (hw _ (List.mem_of_getElem? (i := 20) rfl))) Via.refl e0 (S7.ext O0.2) (g := (mkF m 63 #[.val (.int k)] [])) rfl (hb hby d1_63)
                refine own_st (T' := T15) (g' := (mkF m 66 #[.val (.int k)] [(.ref w7)])) st15 ?_
                exact own_retA X15 hx hret rfl rfl hlk (hb hby d1_66) (by decide) (by decide) ⟨(by simp [own_pick, hc1, hc3, hc5, hc7, hc9, hc11, hc13]), N0, e15⟩
theorem d2_0 : decode prog_19_method_5_code 0 = .ok (.aload_n 0, 1) := by decide +kernel
theorem d2_1 : decode prog_19_method_5_code 1 = .ok (.getstatic 10, 3) := by decide +kernel
theorem d2_4 : decode prog_19_method_5_code 4 = .ok (.if_acmp .eq 10, 3) := by decide +kernel
theorem d2_7 : decode prog_19_method_5_code 7 = .ok (.aload_n 0, 1) := by decide +kernel
theorem d2_8 : decode prog_19_method_5_code 8 = .ok (.getstatic 3, 3) := by decide +kernel
theorem d2_11 : decode prog_19_method_5_code 11 = .ok (.if_acmp .ne 7, 3) := by decide +kernel
theorem d2_14 : decode prog_19_method_5_code 14 = .ok (.iconst 1, 1) := by decide +kernel
theorem d2_15 : decode prog_19_method_5_code 15 = .ok (.goto 4, 3) := by decide +kernel
theorem d2_18 : decode prog_19_method_5_code 18 = .ok (.iconst 0, 1) := by decide +kernel
theorem d2_19 : decode prog_19_method_5_code 19 = .ok (.ireturn, 1) := by decide +kernel
theorem pn_1 : plainName "com/example/sheafgate/sheafgate/oai/OaiException$ErrorCode" = true := by first | (simp [plainName, overriddenIn]; done) | decide +kernel
theorem ef_rej (m : MethodId) (x0 : Addr) : entryFrame m #[(.ref x0)] 1 = mkF m 0 #[.val (.ref x0)] [] := by first | (simp [entryFrame, mkF, argsToLocals, Value.category]; done) | rfl
def Q_rej (Z : State) (a : Addr) (w0 : Addr) (w2 : Addr) (h0 : Heap) (n0 : Nat) (v : Option Value) (h : Heap) (L : List Loc) : Prop := (v = some (.int (if a = w2 ∨ a = w0 then (1 : Int32) else 0))) ∧ (Fr n0 L) ∧ (h = h0)
set_option maxRecDepth 65536 in
set_option maxHeartbeats 40000000 in
theorem rm_rej (l : Launch) (Z : State) (a0 : Array Value) (hw : ∀ d ∈ tables_1, d.before a0 Z = true) (ws : List Jvm.Cond) (a : Addr) (w0 : Addr) (w2 : Addr) (h0 : Heap) (n0 : Nat) (O0 : Old Z n0 h0) (S0 : Sta Z Z.heap "com/example/sheafgate/sheafgate/oai/OaiException$ErrorCode" "BAD_ARGUMENT" "Lcom/example/sheafgate/sheafgate/oai/OaiException$ErrorCode;" (.ref w0)) (S2 : Sta Z Z.heap "com/example/sheafgate/sheafgate/oai/OaiException$ErrorCode" "BAD_VERB" "Lcom/example/sheafgate/sheafgate/oai/OaiException$ErrorCode;" (.ref w2)) :
    MetFree l (⟨"com/example/sheafgate/sheafgate/oai/OaiException$ErrorCode", "rejectsRequest", "()Z"⟩ : MethodName) (head1 (Jvm.Cond.code (⟨"com/example/sheafgate/sheafgate/oai/OaiException$ErrorCode", "rejectsRequest", "()Z"⟩ : MethodName) prog_19_method_5_code 1 (some .boolean) :: ws) ({ frames := 0, cells := 0, slots := 0, locals := 0 } : Room)) (fun ar_ U => ar_ = #[(.ref a)] ∧ Z.Warmed39 U.vm ∧ U.heap = h0) (fun _ _ _ _ _ => True) (fun _ U o U' => ∃ v L, o = .returned v ∧ Q_rej Z a w0 w2 h0 n0 v U'.heap L ∧ FrameEnd U o U' L ({ frames := 0, cells := 0, slots := 0, locals := 0 } : Room).cells ({ frames := 0, cells := 0, slots := 0, locals := 0 } : Room).slots) := by
  refine MetFree.of_bodySF (plainFor_of_name pn_1) hisR ?_
  intro p e s m args below meth c s₁ Bd hml0 hP hK
  obtain ⟨rfl, hZ, hh⟩ := hP
  have hx := Bd.exec
  have hby := Bd.bytes
  have hml : c.maxLocals = 1 := hml0
  have hown : s.vm.findClass "com/example/sheafgate/sheafgate/oai/OaiException$ErrorCode" = some m.cls := findClass_of_methodNamed Bd.named
  have hnm := (name_of_methodNamed Bd.named Bd.method).1
  have X0 : Stand p l e ({ frames := 0, cells := 0, slots := 0, locals := 0 } : Room) s m #[(.ref a)] below meth c s₁ [] 0 0 := Stand.of_body Bd
  have e0 : s₁.heap = h0 := by rw [← hh, Bd.state]; rfl
  have N0 := Fr.nil n0
  have hret := Bd.returns
  have hlk : meth.locks = false := Bd.notSynchronized
  show own_E p e below s ({ frames := 0, cells := 0, slots := 0, locals := 0 } : Room).cells ({ frames := 0, cells := 0, slots := 0, locals := 0 } : Room).slots (Q_rej Z a w0 w2 h0 n0) s₁ (entryFrame m #[(.ref a)] 1)
  rw [ef_rej m a]
  refine own_st (T' := s₁) (g' := (mkF m 1 #[.val (.ref a)] [(.ref a)])) (fun t_ k_ => XS.aloadN X0.here hx rfl (hb hby d2_0) rfl rfl  k_) ?_
  obtain ⟨T1, X1, e1, st1⟩ := getS2 X0 hx hZ hown (host := "") (Or.inl (hw _ (List.mem_of_getElem? (i := 13) rfl))) Via.refl e0 (S2.ext O0.2) (g := (mkF m 1 #[.val (.ref a)] [(.ref a)])) rfl (hb hby d2_1)
  refine own_st (T' := T1) (g' := (mkF m 4 #[.val (.ref a)] [(.ref w2), (.ref a)])) st1 ?_
  by_cases hc2 : a = w2
  · refine own_st (T' := T1) (g' := (mkF m 14 #[.val (.ref a)] [])) (fun t_ k_ => Jvm.RoadKit.acmp (g := (mkF m 4 #[.val (.ref a)] [(.ref w2), (.ref a)])) X1 hx rfl rfl rfl (pc0 := 4) (pc' := 14) (same := true) rfl (hb hby d2_4) rfl (decide_eq_true (congrArg Value.ref hc2)) (by decide) (by decide) k_) ?_
    refine own_st (T' := T1) (g' := (mkF m 15 #[.val (.ref a)] [(.int (1 : Int32))])) (fun t_ k_ => XS.iconst X1.here hx rfl (hb hby d2_14) k_) ?_
    refine own_st (T' := T1) (g' := (mkF m 19 #[.val (.ref a)] [(.int (1 : Int32))])) (fun t_ k_ => XS.goto X1.here hx rfl (pc0 := 15) (pc' := 19) rfl (hb hby d2_15) (by decide) (by decide) k_) ?_
    exact own_retN X1 hx (t := .boolean) hret (by simp) hlk (hb hby d2_19) (by decide) (by decide) ⟨(by simp +decide [nar, hc2]), N0, e1⟩
  · refine own_st (T' := T1) (g' := (mkF m 7 #[.val (.ref a)] [])) (fun t_ k_ => Jvm.RoadKit.acmp (g := (mkF m 4 #[.val (.ref a)] [(.ref w2), (.ref a)])) X1 hx rfl rfl rfl (pc0 := 4) (pc' := 7) (same := false) rfl (hb hby d2_4) rfl (decide_eq_false fun q => hc2 (Value.ref.inj q)) (by decide) (by decide) k_) ?_
    refine own_st (T' := T1) (g' := (mkF m 8 #[.val (.ref a)] [(.ref a)])) (fun t_ k_ => XS.aloadN X1.here hx rfl (hb hby d2_7) rfl rfl  k_) ?_
    obtain ⟨T3, X3, e3, st3⟩ := getS2 X1 hx hZ hown (host := "") (Or.inl (hw _ (List.mem_of_getElem? (i := 15) rfl))) Via.refl e1 (S0.ext O0.2) (g := (mkF m 8 #[.val (.ref a)] [(.ref a)])) rfl (hb hby d2_8)
    refine own_st (T' := T3) (g' := (mkF m 11 #[.val (.ref a)] [(.ref w0), (.ref a)])) st3 ?_
    by_cases hc4 : a = w0
    · refine own_st (T' := T3) (g' := (mkF m 14 #[.val (.ref a)] [])) (fun t_ k_ => Jvm.RoadKit.acmp (g := (mkF m 11 #[.val (.ref a)] [(.ref w0), (.ref a)])) X3 hx rfl rfl rfl (pc0 := 11) (pc' := 14) (same := true) rfl (hb hby d2_11) rfl (decide_eq_true (congrArg Value.ref hc4)) (by decide) (by decide) k_) ?_
      refine own_st (T' := T3) (g' := (mkF m 15 #[.val (.ref a)] [(.int (1 : Int32))])) (fun t_ k_ => XS.iconst X3.here hx rfl (hb hby d2_14) k_) ?_
      refine own_st (T' := T3) (g' := (mkF m 19 #[.val (.ref a)] [(.int (1 : Int32))])) (fun t_ k_ => XS.goto X3.here hx rfl (pc0 := 15) (pc' := 19) rfl (hb hby d2_15) (by decide) (by decide) k_) ?_
      exact own_retN X3 hx (t := .boolean) hret (by simp) hlk (hb hby d2_19) (by decide) (by decide) ⟨(by simp +decide [nar, hc2, hc4]), N0, e3⟩
    · refine own_st (T' := T3) (g' := (mkF m 18 #[.val (.ref a)] [])) (fun t_ k_ => Jvm.RoadKit.acmp (g := (mkF m 11 #[.val (.ref a)] [(.ref w0), (.ref a)])) X3 hx rfl rfl rfl (pc0 := 11) (pc' := 18) (same := false) rfl (hb hby d2_11) rfl (decide_eq_false fun q => hc4 (Value.ref.inj q)) (by decide) (by decide) k_) ?_
      refine own_st (T' := T3) (g' := (mkF m 19 #[.val (.ref a)] [(.int (0 : Int32))])) (fun t_ k_ => XS.iconst X3.here hx rfl (hb hby d2_18) k_) ?_
      exact own_retN X3 hx (t := .boolean) hret (by simp) hlk (hb hby d2_19) (by decide) (by decide) ⟨(by simp +decide [nar, hc2, hc4]), N0, e3⟩
theorem pd__I_Lcom_example_sheafgate_sheafgate_oai_OaiException_ErrorCode_ : parseMethodDescriptor "(I)Lcom/example/sheafgate/sheafgate/oai/OaiException$ErrorCode;" = some ⟨[.int], some (.object "com/example/sheafgate/sheafgate/oai/OaiException$ErrorCode")⟩ := by decide +kernel
theorem pd___Z : parseMethodDescriptor "()Z" = some ⟨[], some .boolean⟩ := by decide +kernel
theorem ef_0 (m : MethodId) (x0 : Int32) : entryFrame m #[(.int x0)] maxLocals = mkF m 0 #[.val (.int x0), .unset, .unset, .unset] [] := by first | (simp [entryFrame, mkF, argsToLocals, Value.category, maxLocals]; done) | rfl
set_option maxRecDepth 65536 in
set_option maxHeartbeats 40000000 in
theorem rm_0 (l : Launch) (Z : State) (a0 : Array Value) (hw : ∀ d ∈ tables_1, d.before a0 Z = true) (ws : List Jvm.Cond) (p1 : Int32) (w0 : Addr) (w1 : Addr) (w2 : Addr) (w3 : Addr) (w4 : Addr) (w5 : Addr) (w6 : Addr) (w7 : Addr) (h0 : Heap) (n0 : Nat) (O0 : Old Z n0 h0) (S0 : Sta Z Z.heap "com/example/sheafgate/sheafgate/oai/OaiException$ErrorCode" "BAD_ARGUMENT" "Lcom/example/sheafgate/sheafgate/oai/OaiException$ErrorCode;" (.ref w0)) (S1 : Sta Z Z.heap "com/example/sheafgate/sheafgate/oai/OaiException$ErrorCode" "BAD_RESUMPTION_TOKEN" "Lcom/example/sheafgate/sheafgate/oai/OaiException$ErrorCode;" (.ref w1)) (S2 : Sta Z Z.heap "com/example/sheafgate/sheafgate/oai/OaiException$ErrorCode" "BAD_VERB" "Lcom/example/sheafgate/sheafgate/oai/OaiException$ErrorCode;" (.ref w2)) (S3 : Sta Z Z.heap "com/example/sheafgate/sheafgate/oai/OaiException$ErrorCode" "CANNOT_DISSEMINATE_FORMAT" "Lcom/example/sheafgate/sheafgate/oai/OaiException$ErrorCode;" (.ref w3)) (S4 : Sta Z Z.heap "com/example/sheafgate/sheafgate/oai/OaiException$ErrorCode" "ID_DOES_NOT_EXIST" "Lcom/example/sheafgate/sheafgate/oai/OaiException$ErrorCode;" (.ref w4)) (S5 : Sta Z Z.heap "com/example/sheafgate/sheafgate/oai/OaiException$ErrorCode" "NO_RECORDS_MATCH" "Lcom/example/sheafgate/sheafgate/oai/OaiException$ErrorCode;" (.ref w5)) (S6 : Sta Z Z.heap "com/example/sheafgate/sheafgate/oai/OaiException$ErrorCode" "NO_METADATA_FORMATS" "Lcom/example/sheafgate/sheafgate/oai/OaiException$ErrorCode;" (.ref w6)) (S7 : Sta Z Z.heap "com/example/sheafgate/sheafgate/oai/OaiException$ErrorCode" "NO_SET_HIERARCHY" "Lcom/example/sheafgate/sheafgate/oai/OaiException$ErrorCode;" (.ref w7)) (X_0 : Exa Z Z.heap w0 "com/example/sheafgate/sheafgate/oai/OaiException$ErrorCode") (X_1 : Exa Z Z.heap w1 "com/example/sheafgate/sheafgate/oai/OaiException$ErrorCode") (X_2 : Exa Z Z.heap w2 "com/example/sheafgate/sheafgate/oai/OaiException$ErrorCode") (X_3 : Exa Z Z.heap w3 "com/example/sheafgate/sheafgate/oai/OaiException$ErrorCode") (X_4 : Exa Z Z.heap w4 "com/example/sheafgate/sheafgate/oai/OaiException$ErrorCode") (X_5 : Exa Z Z.heap w5 "com/example/sheafgate/sheafgate/oai/OaiException$ErrorCode") (X_6 : Exa Z Z.heap w6 "com/example/sheafgate/sheafgate/oai/OaiException$ErrorCode") (X_7 : Exa Z Z.heap w7 "com/example/sheafgate/sheafgate/oai/OaiException$ErrorCode") (D : own_D w0 w1 w2 w3 w4 w5 w6 w7) :
    MetFree l x (head1 (Jvm.Cond.code x code maxLocals ret :: ws) room_1) (fun ar_ U => ar_ = #[(.int p1)] ∧ Z.Warmed39 U.vm ∧ U.heap = h0) (fun _ _ _ _ _ => True) (fun _ U o U' => ∃ v L, o = .returned v ∧ own_L n0 v U'.heap L ∧ FrameEnd U o U' L room_1.cells room_1.slots) := by
  refine MetFree.of_bodySF (plainFor_of_name pn_0) hisR ?_
  intro p e s m args below meth c s₁ Bd hml0 hP hK
  obtain ⟨rfl, hZ, hh⟩ := hP
  have hx := Bd.exec
  have hby := Bd.bytes
  have hml : c.maxLocals = 4 := hml0
  have hown : s.vm.findClass "com/example/sheafgate/sheafgate/oai/ErrorCodeRejectsRequestPinLaw" = some m.cls := findClass_of_methodNamed Bd.named
  have hnm := (name_of_methodNamed Bd.named Bd.method).1
  have X0 : Stand p l e room_1 s m #[(.int p1)] below meth c s₁ [] 0 0 := Stand.of_body Bd
  have e0 : s₁.heap = h0 := by rw [← hh, Bd.state]; rfl
  have N0 := Fr.nil n0
  have hret := Bd.returns
  have hlk : meth.locks = false := Bd.notSynchronized
  show own_E p e below s room_1.cells room_1.slots (own_L n0) s₁ (entryFrame m #[(.int p1)] maxLocals)
  rw [ef_0 m p1]
  refine own_st (T' := s₁) (g' := (mkF m 1 #[.val (.int p1), .unset, .unset, .unset] [(.int p1)])) (fun t_ k_ => XS.iloadN X0.here hx rfl (hb hby at_0) rfl  k_) ?_
  refine own_st (T' := s₁) (g' := (mkF m 3 #[.val (.int p1), .unset, .unset, .unset] [(.int (2147483647 : Int32)), (.int p1)])) (X0.ldcInt hx hown (mvT hZ (hw _ (List.mem_of_getElem? (i := 0) rfl))) (g := (mkF m 1 #[.val (.int p1), .unset, .unset, .unset] [(.int p1)])) rfl (hb hby at_1)) ?_
  refine own_st (T' := s₁) (g' := (mkF m 4 #[.val (.int p1), .unset, .unset, .unset] [(.int (p1 &&& (2147483647 : Int32)))])) (fun t_ k_ => XS.iand X0.here hx rfl (hb hby at_3) rfl k_) ?_
  refine own_st (T' := s₁) (g' := (mkF m 6 #[.val (.int p1), .unset, .unset, .unset] [(.int (8 : Int32)), (.int (p1 &&& (2147483647 : Int32)))])) (fun t_ k_ => XS.bipush X0.here hx rfl (hb hby at_4) k_) ?_
  refine own_st (T' := s₁) (g' := (mkF m 7 #[.val (.int p1), .unset, .unset, .unset] [(.int ((p1 &&& (2147483647 : Int32)) % (8 : Int32)))])) (fun t_ k_ => iremM X0 hx rfl (hb hby at_6) rfl (by decide) k_) ?_
  refine own_st (T' := s₁) (g' := (mkF m 8 #[.val (.int p1), .val (.int ((p1 &&& (2147483647 : Int32)) % (8 : Int32))), .unset, .unset] [])) (fun t_ k_ => XS.istoreN X0.here hx rfl (hb hby at_7) rfl (l' := #[.val (.int p1), .val (.int ((p1 &&& (2147483647 : Int32)) % (8 : Int32))), .unset, .unset]) rfl k_) ?_
  refine own_st (T' := s₁) (g' := (mkF m 9 #[.val (.int p1), .val (.int ((p1 &&& (2147483647 : Int32)) % (8 : Int32))), .unset, .unset] [(.int ((p1 &&& (2147483647 : Int32)) % (8 : Int32)))])) (fun t_ k_ => XS.iloadN X0.here hx rfl (hb hby at_8) rfl  k_) ?_
  obtain ⟨_, _, ⟨T1, L1, k1, n1⟩, -, X1, ⟨Lc1, hQ1, l1, y1, z1⟩, st1⟩ := Jvm.LawKit.callS X0 hx (y := (⟨"com/example/sheafgate/sheafgate/oai/ErrorCodeRejectsRequestPinLaw", "pick", "(I)Lcom/example/sheafgate/sheafgate/oai/OaiException$ErrorCode;"⟩ : MethodName)) hown (mvT hZ (hw _ (List.mem_of_getElem? (i := 1) rfl))) (mvT hZ (hw _ (List.mem_of_getElem? (i := 2) rfl))) (mvT hZ (hw _ (List.mem_of_getElem? (i := 3) rfl))) (mvT hZ (hw _ (List.mem_of_getElem? (i := 4) rfl))) (by decide) (backOf (W := 0) (rm_pick l Z a0 hw [] ((p1 &&& (2147483647 : Int32)) % (8 : Int32)) w0 w1 w2 w3 w4 w5 w6 w7 h0 n0 O0 S0 S1 S2 S3 S4 S5 S6 S7) hZ (hw _ (List.mem_of_getElem? (i := 4) rfl)) (hw _ (List.mem_of_getElem? (i := 3) rfl)) (by decide) (by decide)) (g := (mkF m 9 #[.val (.int p1), .val (.int ((p1 &&& (2147483647 : Int32)) % (8 : Int32))), .unset, .unset] [(.int ((p1 &&& (2147483647 : Int32)) % (8 : Int32)))])) rfl (by rw [hml]; rfl) (argsL := [(.int ((p1 &&& (2147483647 : Int32)) % (8 : Int32)))]) (rest := []) (lenOf pd__I_Lcom_example_sheafgate_sheafgate_oai_OaiException_ErrorCode_ rfl) rfl (by show 2 * 0 + _ ≤ _; exact Nat.le_of_eq rfl) (hb hby at_9) (fun _ _ => ⟨rfl, e0, (by decide : 0 + 0 ≤ _), (by decide : 0 + 0 ≤ _)⟩)
  dsimp only [Pt.U, Pt.locs, Pt.cells, Pt.slots] at X1 l1 y1 z1 st1 hQ1
  subst l1 y1 z1
  obtain ⟨rfl, Nq1, eq1⟩ := hQ1
  have N1 := Fr.app N0 Nq1
  refine own_st (T' := T1) (g' := (mkF m 12 #[.val (.int p1), .val (.int ((p1 &&& (2147483647 : Int32)) % (8 : Int32))), .unset, .unset] [(.ref (own_pick ((p1 &&& (2147483647 : Int32)) % (8 : Int32)) w0 w1 w2 w3 w4 w5 w6 w7))])) st1 ?_
  refine own_st (T' := T1) (g' := (mkF m 13 #[.val (.int p1), .val (.int ((p1 &&& (2147483647 : Int32)) % (8 : Int32))), .val (.ref (own_pick ((p1 &&& (2147483647 : Int32)) % (8 : Int32)) w0 w1 w2 w3 w4 w5 w6 w7)), .unset] [])) (fun t_ k_ => XS.astoreN X1.here hx rfl (hb hby at_12) rfl rfl (l' := #[.val (.int p1), .val (.int ((p1 &&& (2147483647 : Int32)) % (8 : Int32))), .val (.ref (own_pick ((p1 &&& (2147483647 : Int32)) % (8 : Int32)) w0 w1 w2 w3 w4 w5 w6 w7)), .unset]) rfl k_) ?_
  refine own_st (T' := T1) (g' := (mkF m 14 #[.val (.int p1), .val (.int ((p1 &&& (2147483647 : Int32)) % (8 : Int32))), .val (.ref (own_pick ((p1 &&& (2147483647 : Int32)) % (8 : Int32)) w0 w1 w2 w3 w4 w5 w6 w7)), .unset] [(.int ((p1 &&& (2147483647 : Int32)) % (8 : Int32)))])) (fun t_ k_ => XS.iloadN X1.here hx rfl (hb hby at_13) rfl  k_) ?_
  by_cases hc2 : ((p1 &&& (2147483647 : Int32)) % (8 : Int32)) = (0 : Int32)
  · refine own_st (T' := T1) (g' := (mkF m 22 #[.val (.int p1), .val (.int ((p1 &&& (2147483647 : Int32)) % (8 : Int32))), .val (.ref (own_pick ((p1 &&& (2147483647 : Int32)) % (8 : Int32)) w0 w1 w2 w3 w4 w5 w6 w7)), .unset] [])) (fun t_ k_ => XS.ifYes X1.here hx rfl (pc0 := 14) (pc' := 22) rfl (hb hby at_14) rfl ((if0 _ _).trans (teq hc2).1) (by decide) (by decide) k_) ?_
    refine own_st (T' := T1) (g' := (mkF m 23 #[.val (.int p1), .val (.int ((p1 &&& (2147483647 : Int32)) % (8 : Int32))), .val (.ref (own_pick ((p1 &&& (2147483647 : Int32)) % (8 : Int32)) w0 w1 w2 w3 w4 w5 w6 w7)), .unset] [(.int (1 : Int32))])) (fun t_ k_ => XS.iconst X1.here hx rfl (hb hby at_22) k_) ?_
    refine own_st (T' := T1) (g' := (mkF m 27 #[.val (.int p1), .val (.int ((p1 &&& (2147483647 : Int32)) % (8 : Int32))), .val (.ref (own_pick ((p1 &&& (2147483647 : Int32)) % (8 : Int32)) w0 w1 w2 w3 w4 w5 w6 w7)), .unset] [(.int (1 : Int32))])) (fun t_ k_ => XS.goto X1.here hx rfl (pc0 := 23) (pc' := 27) rfl (hb hby at_23) (by decide) (by decide) k_) ?_
    refine own_st (T' := T1) (g' := (mkF m 28 #[.val (.int p1), .val (.int ((p1 &&& (2147483647 : Int32)) % (8 : Int32))), .val (.ref (own_pick ((p1 &&& (2147483647 : Int32)) % (8 : Int32)) w0 w1 w2 w3 w4 w5 w6 w7)), .val (.int (1 : Int32))] [])) (fun t_ k_ => XS.istoreN X1.here hx rfl (hb hby at_27) rfl (l' := #[.val (.int p1), .val (.int ((p1 &&& (2147483647 : Int32)) % (8 : Int32))), .val (.ref (own_pick ((p1 &&& (2147483647 : Int32)) % (8 : Int32)) w0 w1 w2 w3 w4 w5 w6 w7)), .val (.int (1 : Int32))]) rfl k_) ?_
    refine own_st (T' := T1) (g' := (mkF m 29 #[.val (.int p1), .val (.int ((p1 &&& (2147483647 : Int32)) % (8 : Int32))), .val (.ref (own_pick ((p1 &&& (2147483647 : Int32)) % (8 : Int32)) w0 w1 w2 w3 w4 w5 w6 w7)), .val (.int (1 : Int32))] [(.ref (own_pick ((p1 &&& (2147483647 : Int32)) % (8 : Int32)) w0 w1 w2 w3 w4 w5 w6 w7))])) (fun t_ k_ => XS.aloadN X1.here hx rfl (hb hby at_28) rfl rfl  k_) ?_
    obtain ⟨cq3, kq3, q3a, q3b, q3c⟩ := isOf hZ eq1 ((own_isC ((p1 &&& (2147483647 : Int32)) % (8 : Int32)) w0 w1 w2 w3 w4 w5 w6 w7 X_0 X_1 X_2 X_3 X_4 X_5 X_6 X_7).ext O0.2)
    obtain ⟨_, _, ⟨T3, L3, k3, n3⟩, -, X3, ⟨Lc3, hQ3, l3, y3, z3⟩, st3⟩ := X1.virtualBack hx (y := (⟨"com/example/sheafgate/sheafgate/oai/OaiException$ErrorCode", "rejectsRequest", "()Z"⟩ : MethodName)) (z := (⟨"com/example/sheafgate/sheafgate/oai/OaiException$ErrorCode", "rejectsRequest", "()Z"⟩ : MethodName)) hown (mvT hZ (hw _ (List.mem_of_getElem? (i := 8) rfl))) (mvT hZ (hw _ (List.mem_of_getElem? (i := 9) rfl))) (notFace_of_selects (args := #[]) (mvT hZ (hw _ (List.mem_of_getElem? (i := 11) rfl)))) (mvT hZ (hw _ (List.mem_of_getElem? (i := 11) rfl))) (mvT hZ (hw _ (List.mem_of_getElem? (i := 10) rfl))) (by decide) (backOf (W := 0) (rm_rej l Z a0 hw [] (own_pick ((p1 &&& (2147483647 : Int32)) % (8 : Int32)) w0 w1 w2 w3 w4 w5 w6 w7) w0 w2 h0 n0 O0 S0 S2) hZ (hw _ (List.mem_of_getElem? (i := 12) rfl)) (hw _ (List.mem_of_getElem? (i := 6) rfl)) (by decide) (by decide)) q3a q3c (g := (mkF m 29 #[.val (.int p1), .val (.int ((p1 &&& (2147483647 : Int32)) % (8 : Int32))), .val (.ref (own_pick ((p1 &&& (2147483647 : Int32)) % (8 : Int32)) w0 w1 w2 w3 w4 w5 w6 w7)), .val (.int (1 : Int32))] [(.ref (own_pick ((p1 &&& (2147483647 : Int32)) % (8 : Int32)) w0 w1 w2 w3 w4 w5 w6 w7))])) rfl (by rw [hml]; rfl) (Steps.refl _) (argsL := []) (rest := []) (lenOf pd___Z rfl) rfl (by show 2 * 0 + _ ≤ _; exact Nat.le_of_eq rfl) (hb hby at_29) (fun _ _ => ⟨rfl, eq1, (by decide : 0 + 0 ≤ _), (by decide : 0 + 0 ≤ _)⟩)
    dsimp only [Pt.U, Pt.locs, Pt.cells, Pt.slots] at X3 l3 y3 z3 st3 hQ3
    subst l3 y3 z3
    obtain ⟨rfl, Nq3, eq3⟩ := hQ3
    have N3 := Fr.app N1 Nq3
    refine own_st (T' := T3) (g' := (mkF m 32 #[.val (.int p1), .val (.int ((p1 &&& (2147483647 : Int32)) % (8 : Int32))), .val (.ref (own_pick ((p1 &&& (2147483647 : Int32)) % (8 : Int32)) w0 w1 w2 w3 w4 w5 w6 w7)), .val (.int (1 : Int32))] [(.int (if (own_pick ((p1 &&& (2147483647 : Int32)) % (8 : Int32)) w0 w1 w2 w3 w4 w5 w6 w7) = w2 ∨ (own_pick ((p1 &&& (2147483647 : Int32)) % (8 : Int32)) w0 w1 w2 w3 w4 w5 w6 w7) = w0 then (1 : Int32) else 0))])) (fun t_ k_ => st3.trans k_) ?_
    refine own_st (T' := T3) (g' := (mkF m 33 #[.val (.int p1), .val (.int ((p1 &&& (2147483647 : Int32)) % (8 : Int32))), .val (.ref (own_pick ((p1 &&& (2147483647 : Int32)) % (8 : Int32)) w0 w1 w2 w3 w4 w5 w6 w7)), .val (.int (1 : Int32))] [(.int (1 : Int32)), (.int (if (own_pick ((p1 &&& (2147483647 : Int32)) % (8 : Int32)) w0 w1 w2 w3 w4 w5 w6 w7) = w2 ∨ (own_pick ((p1 &&& (2147483647 : Int32)) % (8 : Int32)) w0 w1 w2 w3 w4 w5 w6 w7) = w0 then (1 : Int32) else 0))])) (fun t_ k_ => XS.iloadN X3.here hx rfl (hb hby at_32) rfl  k_) ?_
    refine own_st (T' := T3) (g' := (mkF m 36 #[.val (.int p1), .val (.int ((p1 &&& (2147483647 : Int32)) % (8 : Int32))), .val (.ref (own_pick ((p1 &&& (2147483647 : Int32)) % (8 : Int32)) w0 w1 w2 w3 w4 w5 w6 w7)), .val (.int (1 : Int32))] [])) (fun t_ k_ => XS.icmpNo X3.here hx rfl (hb hby at_33) rfl (teq ((own_key p1 w0 w1 w2 w3 w4 w5 w6 w7 D).trans (by simp +decide [hc2]) : (if (own_pick ((p1 &&& (2147483647 : Int32)) % (8 : Int32)) w0 w1 w2 w3 w4 w5 w6 w7) = w2 ∨ (own_pick ((p1 &&& (2147483647 : Int32)) % (8 : Int32)) w0 w1 w2 w3 w4 w5 w6 w7) = w0 then (1 : Int32) else 0) = (1 : Int32))).2 k_) ?_
    refine own_st (T' := T3) (g' := (mkF m 37 #[.val (.int p1), .val (.int ((p1 &&& (2147483647 : Int32)) % (8 : Int32))), .val (.ref (own_pick ((p1 &&& (2147483647 : Int32)) % (8 : Int32)) w0 w1 w2 w3 w4 w5 w6 w7)), .val (.int (1 : Int32))] [(.int (1 : Int32))])) (fun t_ k_ => XS.iconst X3.here hx rfl (hb hby at_36) k_) ?_
    refine own_st (T' := T3) (g' := (mkF m 41 #[.val (.int p1), .val (.int ((p1 &&& (2147483647 : Int32)) % (8 : Int32))), .val (.ref (own_pick ((p1 &&& (2147483647 : Int32)) % (8 : Int32)) w0 w1 w2 w3 w4 w5 w6 w7)), .val (.int (1 : Int32))] [(.int (1 : Int32))])) (fun t_ k_ => XS.goto X3.here hx rfl (pc0 := 37) (pc' := 41) rfl (hb hby at_37) (by decide) (by decide) k_) ?_
    exact own_retN X3 hx (t := .boolean) hret (by simp) hlk (hb hby at_41) (by decide) (by decide) ⟨rfl, N3⟩
  · refine own_st (T' := T1) (g' := (mkF m 17 #[.val (.int p1), .val (.int ((p1 &&& (2147483647 : Int32)) % (8 : Int32))), .val (.ref (own_pick ((p1 &&& (2147483647 : Int32)) % (8 : Int32)) w0 w1 w2 w3 w4 w5 w6 w7)), .unset] [])) (fun t_ k_ => XS.ifNo X1.here hx rfl (hb hby at_14) rfl ((if0 _ _).trans (feq hc2).1) k_) ?_
    refine own_st (T' := T1) (g' := (mkF m 18 #[.val (.int p1), .val (.int ((p1 &&& (2147483647 : Int32)) % (8 : Int32))), .val (.ref (own_pick ((p1 &&& (2147483647 : Int32)) % (8 : Int32)) w0 w1 w2 w3 w4 w5 w6 w7)), .unset] [(.int ((p1 &&& (2147483647 : Int32)) % (8 : Int32)))])) (fun t_ k_ => XS.iloadN X1.here hx rfl (hb hby at_17) rfl  k_) ?_
    refine own_st (T' := T1) (g' := (mkF m 19 #[.val (.int p1), .val (.int ((p1 &&& (2147483647 : Int32)) % (8 : Int32))), .val (.ref (own_pick ((p1 &&& (2147483647 : Int32)) % (8 : Int32)) w0 w1 w2 w3 w4 w5 w6 w7)), .unset] [(.int (2 : Int32)), (.int ((p1 &&& (2147483647 : Int32)) % (8 : Int32)))])) (fun t_ k_ => XS.iconst X1.here hx rfl (hb hby at_18) k_) ?_
    by_cases hc4 : ((p1 &&& (2147483647 : Int32)) % (8 : Int32)) = (2 : Int32)
    · refine own_st (T' := T1) (g' := (mkF m 22 #[.val (.int p1), .val (.int ((p1 &&& (2147483647 : Int32)) % (8 : Int32))), .val (.ref (own_pick ((p1 &&& (2147483647 : Int32)) % (8 : Int32)) w0 w1 w2 w3 w4 w5 w6 w7)), .unset] [])) (fun t_ k_ => XS.icmpNo X1.here hx rfl (hb hby at_19) rfl (teq hc4).2 k_) ?_
      refine own_st (T' := T1) (g' := (mkF m 23 #[.val (.int p1), .val (.int ((p1 &&& (2147483647 : Int32)) % (8 : Int32))), .val (.ref (own_pick ((p1 &&& (2147483647 : Int32)) % (8 : Int32)) w0 w1 w2 w3 w4 w5 w6 w7)), .unset] [(.int (1 : Int32))])) (fun t_ k_ => XS.iconst X1.here hx rfl (hb hby at_22) k_) ?_
      refine own_st (T' := T1) (g' := (mkF m 27 #[.val (.int p1), .val (.int ((p1 &&& (2147483647 : Int32)) % (8 : Int32))), .val (.ref (own_pick ((p1 &&& (2147483647 : Int32)) % (8 : Int32)) w0 w1 w2 w3 w4 w5 w6 w7)), .unset] [(.int (1 : Int32))])) (fun t_ k_ => XS.goto X1.here hx rfl (pc0 := 23) (pc' := 27) rfl (hb hby at_23) (by decide) (by decide) k_) ?_
      refine own_st (T' := T1) (g' := (mkF m 28 #[.val (.int p1), .val (.int ((p1 &&& (2147483647 : Int32)) % (8 : Int32))), .val (.ref (own_pick ((p1 &&& (2147483647 : Int32)) % (8 : Int32)) w0 w1 w2 w3 w4 w5 w6 w7)), .val (.int (1 : Int32))] [])) (fun t_ k_ => XS.istoreN X1.here hx rfl (hb hby at_27) rfl (l' := #[.val (.int p1), .val (.int ((p1 &&& (2147483647 : Int32)) % (8 : Int32))), .val (.ref (own_pick ((p1 &&& (2147483647 : Int32)) % (8 : Int32)) w0 w1 w2 w3 w4 w5 w6 w7)), .val (.int (1 : Int32))]) rfl k_) ?_
      refine own_st (T' := T1) (g' := (mkF m 29 #[.val (.int p1), .val (.int ((p1 &&& (2147483647 : Int32)) % (8 : Int32))), .val (.ref (own_pick ((p1 &&& (2147483647 : Int32)) % (8 : Int32)) w0 w1 w2 w3 w4 w5 w6 w7)), .val (.int (1 : Int32))] [(.ref (own_pick ((p1 &&& (2147483647 : Int32)) % (8 : Int32)) w0 w1 w2 w3 w4 w5 w6 w7))])) (fun t_ k_ => XS.aloadN X1.here hx rfl (hb hby at_28) rfl rfl  k_) ?_
      obtain ⟨cq5, kq5, q5a, q5b, q5c⟩ := isOf hZ eq1 ((own_isC ((p1 &&& (2147483647 : Int32)) % (8 : Int32)) w0 w1 w2 w3 w4 w5 w6 w7 X_0 X_1 X_2 X_3 X_4 X_5 X_6 X_7).ext O0.2)
      obtain ⟨_, _, ⟨T5, L5, k5, n5⟩, -, X5, ⟨Lc5, hQ5, l5, y5, z5⟩, st5⟩ := X1.virtualBack hx (y := (⟨"com/example/sheafgate/sheafgate/oai/OaiException$ErrorCode", "rejectsRequest", "()Z"⟩ : MethodName)) (z := (⟨"com/example/sheafgate/sheafgate/oai/OaiException$ErrorCode", "rejectsRequest", "()Z"⟩ : MethodName)) hown (mvT hZ (hw _ (List.mem_of_getElem? (i := 8) rfl))) (mvT hZ (hw _ (List.mem_of_getElem? (i := 9) rfl))) (notFace_of_selects (args := #[]) (mvT hZ (hw _ (List.mem_of_getElem? (i := 11) rfl)))) (mvT hZ (hw _ (List.mem_of_getElem? (i := 11) rfl))) (mvT hZ (hw _ (List.mem_of_getElem? (i := 10) rfl))) (by decide) (backOf (W := 0) (rm_rej l Z a0 hw [] (own_pick ((p1 &&& (2147483647 : Int32)) % (8 : Int32)) w0 w1 w2 w3 w4 w5 w6 w7) w0 w2 h0 n0 O0 S0 S2) hZ (hw _ (List.mem_of_getElem? (i := 12) rfl)) (hw _ (List.mem_of_getElem? (i := 6) rfl)) (by decide) (by decide)) q5a q5c (g := (mkF m 29 #[.val (.int p1), .val (.int ((p1 &&& (2147483647 : Int32)) % (8 : Int32))), .val (.ref (own_pick ((p1 &&& (2147483647 : Int32)) % (8 : Int32)) w0 w1 w2 w3 w4 w5 w6 w7)), .val (.int (1 : Int32))] [(.ref (own_pick ((p1 &&& (2147483647 : Int32)) % (8 : Int32)) w0 w1 w2 w3 w4 w5 w6 w7))])) rfl (by rw [hml]; rfl) (Steps.refl _) (argsL := []) (rest := []) (lenOf pd___Z rfl) rfl (by show 2 * 0 + _ ≤ _; exact Nat.le_of_eq rfl) (hb hby at_29) (fun _ _ => ⟨rfl, eq1, (by decide : 0 + 0 ≤ _), (by decide : 0 + 0 ≤ _)⟩)
      dsimp only [Pt.U, Pt.locs, Pt.cells, Pt.slots] at X5 l5 y5 z5 st5 hQ5
      subst l5 y5 z5
      obtain ⟨rfl, Nq5, eq5⟩ := hQ5
      have N5 := Fr.app N1 Nq5
      refine own_st (T' := T5) (g' := (mkF m 32 #[.val (.int p1), .val (.int ((p1 &&& (2147483647 : Int32)) % (8 : Int32))), .val (.ref (own_pick ((p1 &&& (2147483647 : Int32)) % (8 : Int32)) w0 w1 w2 w3 w4 w5 w6 w7)), .val (.int (1 : Int32))] [(.int (if (own_pick ((p1 &&& (2147483647 : Int32)) % (8 : Int32)) w0 w1 w2 w3 w4 w5 w6 w7) = w2 ∨ (own_pick ((p1 &&& (2147483647 : Int32)) % (8 : Int32)) w0 w1 w2 w3 w4 w5 w6 w7) = w0 then (1 : Int32) else 0))])) (fun t_ k_ => st5.trans k_) ?_
      refine own_st (T' := T5) (g' := (mkF m 33 #[.val (.int p1), .val (.int ((p1 &&& (2147483647 : Int32)) % (8 : Int32))), .val (.ref (own_pick ((p1 &&& (2147483647 : Int32)) % (8 : Int32)) w0 w1 w2 w3 w4 w5 w6 w7)), .val (.int (1 : Int32))] [(.int (1 : Int32)), (.int (if (own_pick ((p1 &&& (2147483647 : Int32)) % (8 : Int32)) w0 w1 w2 w3 w4 w5 w6 w7) = w2 ∨ (own_pick ((p1 &&& (2147483647 : Int32)) % (8 : Int32)) w0 w1 w2 w3 w4 w5 w6 w7) = w0 then (1 : Int32) else 0))])) (fun t_ k_ => XS.iloadN X5.here hx rfl (hb hby at_32) rfl  k_) ?_
      refine own_st (T' := T5) (g' := (mkF m 36 #[.val (.int p1), .val (.int ((p1 &&& (2147483647 : Int32)) % (8 : Int32))), .val (.ref (own_pick ((p1 &&& (2147483647 : Int32)) % (8 : Int32)) w0 w1 w2 w3 w4 w5 w6 w7)), .val (.int (1 : Int32))] [])) (fun t_ k_ => XS.icmpNo X5.here hx rfl (hb hby at_33) rfl (teq ((own_key p1 w0 w1 w2 w3 w4 w5 w6 w7 D).trans (by simp +decide [hc2, hc4]) : (if (own_pick ((p1 &&& (2147483647 : Int32)) % (8 : Int32)) w0 w1 w2 w3 w4 w5 w6 w7) = w2 ∨ (own_pick ((p1 &&& (2147483647 : Int32)) % (8 : Int32)) w0 w1 w2 w3 w4 w5 w6 w7) = w0 then (1 : Int32) else 0) = (1 : Int32))).2 k_) ?_
      refine own_st (T' := T5) (g' := (mkF m 37 #[.val (.int p1), .val (.int ((p1 &&& (2147483647 : Int32)) % (8 : Int32))), .val (.ref (own_pick ((p1 &&& (2147483647 : Int32)) % (8 : Int32)) w0 w1 w2 w3 w4 w5 w6 w7)), .val (.int (1 : Int32))] [(.int (1 : Int32))])) (fun t_ k_ => XS.iconst X5.here hx rfl (hb hby at_36) k_) ?_
      refine own_st (T' := T5) (g' := (mkF m 41 #[.val (.int p1), .val (.int ((p1 &&& (2147483647 : Int32)) % (8 : Int32))), .val (.ref (own_pick ((p1 &&& (2147483647 : Int32)) % (8 : Int32)) w0 w1 w2 w3 w4 w5 w6 w7)), .val (.int (1 : Int32))] [(.int (1 : Int32))])) (fun t_ k_ => XS.goto X5.here hx rfl (pc0 := 37) (pc' := 41) rfl (hb hby at_37) (by decide) (by decide) k_) ?_
      exact own_retN X5 hx (t := .boolean) hret (by simp) hlk (hb hby at_41) (by decide) (by decide) ⟨rfl, N5⟩
    · refine own_st (T' := T1) (g' := (mkF m 26 #[.val (.int p1), .val (.int ((p1 &&& (2147483647 : Int32)) % (8 : Int32))), .val (.ref (own_pick ((p1 &&& (2147483647 : Int32)) % (8 : Int32)) w0 w1 w2 w3 w4 w5 w6 w7)), .unset] [])) (fun t_ k_ => XS.icmpYes X1.here hx rfl (pc0 := 19) (pc' := 26) rfl (hb hby at_19) rfl (feq hc4).2 (by decide) (by decide) k_) ?_
      refine own_st (T' := T1) (g' := (mkF m 27 #[.val (.int p1), .val (.int ((p1 &&& (2147483647 : Int32)) % (8 : Int32))), .val (.ref (own_pick ((p1 &&& (2147483647 : Int32)) % (8 : Int32)) w0 w1 w2 w3 w4 w5 w6 w7)), .unset] [(.int (0 : Int32))])) (fun t_ k_ => XS.iconst X1.here hx rfl (hb hby at_26) k_) ?_
      refine own_st (T' := T1) (g' := (mkF m 28 #[.val (.int p1), .val (.int ((p1 &&& (2147483647 : Int32)) % (8 : Int32))), .val (.ref (own_pick ((p1 &&& (2147483647 : Int32)) % (8 : Int32)) w0 w1 w2 w3 w4 w5 w6 w7)), .val (.int (0 : Int32))] [])) (fun t_ k_ => XS.istoreN X1.here hx rfl (hb hby at_27) rfl (l' := #[.val (.int p1), .val (.int ((p1 &&& (2147483647 : Int32)) % (8 : Int32))), .val (.ref (own_pick ((p1 &&& (2147483647 : Int32)) % (8 : Int32)) w0 w1 w2 w3 w4 w5 w6 w7)), .val (.int (0 : Int32))]) rfl k_) ?_
      refine own_st (T' := T1) (g' := (mkF m 29 #[.val (.int p1), .val (.int ((p1 &&& (2147483647 : Int32)) % (8 : Int32))), .val (.ref (own_pick ((p1 &&& (2147483647 : Int32)) % (8 : Int32)) w0 w1 w2 w3 w4 w5 w6 w7)), .val (.int (0 : Int32))] [(.ref (own_pick ((p1 &&& (2147483647 : Int32)) % (8 : Int32)) w0 w1 w2 w3 w4 w5 w6 w7))])) (fun t_ k_ => XS.aloadN X1.here hx rfl (hb hby at_28) rfl rfl  k_) ?_
      obtain ⟨cq6, kq6, q6a, q6b, q6c⟩ := isOf hZ eq1 ((own_isC ((p1 &&& (2147483647 : Int32)) % (8 : Int32)) w0 w1 w2 w3 w4 w5 w6 w7 X_0 X_1 X_2 X_3 X_4 X_5 X_6 X_7).ext O0.2)
      obtain ⟨_, _, ⟨T6, L6, k6, n6⟩, -, X6, ⟨Lc6, hQ6, l6, y6, z6⟩, st6⟩ := X1.virtualBack hx (y := (⟨"com/example/sheafgate/sheafgate/oai/OaiException$ErrorCode", "rejectsRequest", "()Z"⟩ : MethodName)) (z := (⟨"com/example/sheafgate/sheafgate/oai/OaiException$ErrorCode", "rejectsRequest", "()Z"⟩ : MethodName)) hown (mvT hZ (hw _ (List.mem_of_getElem? (i := 8) rfl))) (mvT hZ (hw _ (List.mem_of_getElem? (i := 9) rfl))) (notFace_of_selects (args := #[]) (mvT hZ (hw _ (List.mem_of_getElem? (i := 11) rfl)))) (mvT hZ (hw _ (List.mem_of_getElem? (i := 11) rfl))) (mvT hZ (hw _ (List.mem_of_getElem? (i := 10) rfl))) (by decide) (backOf (W := 0) (rm_rej l Z a0 hw [] (own_pick ((p1 &&& (2147483647 : Int32)) % (8 : Int32)) w0 w1 w2 w3 w4 w5 w6 w7) w0 w2 h0 n0 O0 S0 S2) hZ (hw _ (List.mem_of_getElem? (i := 12) rfl)) (hw _ (List.mem_of_getElem? (i := 6) rfl)) (by decide) (by decide)) q6a q6c (g := (mkF m 29 #[.val (.int p1), .val (.int ((p1 &&& (2147483647 : Int32)) % (8 : Int32))), .val (.ref (own_pick ((p1 &&& (2147483647 : Int32)) % (8 : Int32)) w0 w1 w2 w3 w4 w5 w6 w7)), .val (.int (0 : Int32))] [(.ref (own_pick ((p1 &&& (2147483647 : Int32)) % (8 : Int32)) w0 w1 w2 w3 w4 w5 w6 w7))])) rfl (by rw [hml]; rfl) (Steps.refl _) (argsL := []) (rest := []) (lenOf pd___Z rfl) rfl (by show 2 * 0 + _ ≤ _; exact Nat.le_of_eq rfl) (hb hby at_29) (fun _ _ => ⟨rfl, eq1, (by decide : 0 + 0 ≤ _), (by decide : 0 + 0 ≤ _)⟩)
      dsimp only [Pt.U, Pt.locs, Pt.cells, Pt.slots] at X6 l6 y6 z6 st6 hQ6
      subst l6 y6 z6
      obtain ⟨rfl, Nq6, eq6⟩ := hQ6
      have N6 := Fr.app N1 Nq6
      refine own_st (T' := T6) (g' := (mkF m 32 #[.val (.int p1), .val (.int ((p1 &&& (2147483647 : Int32)) % (8 : Int32))), .val (.ref (own_pick ((p1 &&& (2147483647 : Int32)) % (8 : Int32)) w0 w1 w2 w3 w4 w5 w6 w7)), .val (.int (0 : Int32))] [(.int (if (own_pick ((p1 &&& (2147483647 : Int32)) % (8 : Int32)) w0 w1 w2 w3 w4 w5 w6 w7) = w2 ∨ (own_pick ((p1 &&& (2147483647 : Int32)) % (8 : Int32)) w0 w1 w2 w3 w4 w5 w6 w7) = w0 then (1 : Int32) else 0))])) (fun t_ k_ => st6.trans k_) ?_
      refine own_st (T' := T6) (g' := (mkF m 33 #[.val (.int p1), .val (.int ((p1 &&& (2147483647 : Int32)) % (8 : Int32))), .val (.ref (own_pick ((p1 &&& (2147483647 : Int32)) % (8 : Int32)) w0 w1 w2 w3 w4 w5 w6 w7)), .val (.int (0 : Int32))] [(.int (0 : Int32)), (.int (if (own_pick ((p1 &&& (2147483647 : Int32)) % (8 : Int32)) w0 w1 w2 w3 w4 w5 w6 w7) = w2 ∨ (own_pick ((p1 &&& (2147483647 : Int32)) % (8 : Int32)) w0 w1 w2 w3 w4 w5 w6 w7) = w0 then (1 : Int32) else 0))])) (fun t_ k_ => XS.iloadN X6.here hx rfl (hb hby at_32) rfl  k_) ?_
      refine own_st (T' := T6) (g' := (mkF m 36 #[.val (.int p1), .val (.int ((p1 &&& (2147483647 : Int32)) % (8 : Int32))), .val (.ref (own_pick ((p1 &&& (2147483647 : Int32)) % (8 : Int32)) w0 w1 w2 w3 w4 w5 w6 w7)), .val (.int (0 : Int32))] [])) (fun t_ k_ => XS.icmpNo X6.here hx rfl (hb hby at_33) rfl (teq ((own_key p1 w0 w1 w2 w3 w4 w5 w6 w7 D).trans (by simp +decide [hc2, hc4]) : (if (own_pick ((p1 &&& (2147483647 : Int32)) % (8 : Int32)) w0 w1 w2 w3 w4 w5 w6 w7) = w2 ∨ (own_pick ((p1 &&& (2147483647 : Int32)) % (8 : Int32)) w0 w1 w2 w3 w4 w5 w6 w7) = w0 then (1 : Int32) else 0) = (0 : Int32))).2 k_) ?_
      refine own_st (T' := T6) (g' := (mkF m 37 #[.val (.int p1), .val (.int ((p1 &&& (2147483647 : Int32)) % (8 : Int32))), .val (.ref (own_pick ((p1 &&& (2147483647 : Int32)) % (8 : Int32)) w0 w1 w2 w3 w4 w5 w6 w7)), .val (.int (0 : Int32))] [(.int (1 : Int32))])) (fun t_ k_ => XS.iconst X6.here hx rfl (hb hby at_36) k_) ?_
      refine own_st (T' := T6) (g' := (mkF m 41 #[.val (.int p1), .val (.int ((p1 &&& (2147483647 : Int32)) % (8 : Int32))), .val (.ref (own_pick ((p1 &&& (2147483647 : Int32)) % (8 : Int32)) w0 w1 w2 w3 w4 w5 w6 w7)), .val (.int (0 : Int32))] [(.int (1 : Int32))])) (fun t_ k_ => XS.goto X6.here hx rfl (pc0 := 37) (pc' := 41) rfl (hb hby at_37) (by decide) (by decide) k_) ?_
      exact own_retN X6 hx (t := .boolean) hret (by simp) hlk (hb hby at_41) (by decide) (by decide) ⟨rfl, N6⟩
set_option maxRecDepth 65536 in
set_option maxHeartbeats 40000000 in
theorem comes_1 {Post : Tables → Env → Array Value → State → Outcome → State → Prop} (hpost : ∀ tb e args s v u, (limb_1_1.after args s (.returned v) u = true ∧ limb_1_2.after args s (.returned v) u = true ∧ True) → FrameEnd s (.returned v) u (Jvm.fieldLocs frame_1_writes args s ++ Jvm.arrayLocs frame_1_arrays args s ++ Jvm.staticLocs frame_1_statics s) 0 0 → Post tb e args s (.returned v) u) :
    ArmFor flags0 classFile x code maxLocals ret World_1 tables_1 room_1 Calls_1 rest_1 Pre_1 Post := by
  intro l hfl _ _ p e ha hc hk s m args below hf hA hF happ hP
  obtain ⟨hcalls, hrest, hpre⟩ := hP
  obtain ⟨-, -, -, hnamed, -, -, -, hat⟩ := (Spec.applies_iff hf).mp happ
  obtain ⟨hg, hn⟩ := and_e (Cond.before_iff.mp (show (Jvm.Cond.and given_1 narrow_1).before args s = true from hpre))
  obtain ⟨u1a, u1b⟩ := and_e hg
  obtain ⟨v0, rfl⟩ : ∃ v0 : Value, args = #[v0] := by
    have hs : args.size = 1 := by simpa [Cond.value, given_1] using u1a
    obtain ⟨L⟩ := args
    match L, hs with
    | [v0], _ => exact ⟨v0, rfl⟩
  have hw := fun d (hd : d ∈ tables_1) => atoms_spec (ws := Jvm.Cond.code x code maxLocals ret :: tables_1) hat d (List.mem_cons_of_mem _ hd)
  have hfit : Fit s := fun {y c} hc i hi => by
    obtain ⟨ha, rfl⟩ := Array.getElem?_eq_some_iff.mp hc
    have q := List.all_eq_true.mp ((Array.all_eq_true_iff_forall_mem.mp hF) _ (Array.getElem_mem ha)) i (List.mem_range.mpr hi)
    simpa [Array.getElem?_eq_getElem hi] using q
  obtain ⟨i0, ei0⟩ := is_v u1b
  obtain rfl : v0 = (.int i0) := Option.some.inj ei0
  obtain ⟨u2a, u2b⟩ := and_e hn
  obtain ⟨u3a, u3b⟩ := and_e u2b
  obtain ⟨u4a, u4b⟩ := and_e u3b
  obtain ⟨u5a, u5b⟩ := and_e u4b
  obtain ⟨u6a, u6b⟩ := and_e u5b
  obtain ⟨u7a, u7b⟩ := and_e u6b
  obtain ⟨u8a, u8b⟩ := and_e u7b
  obtain ⟨u9a, u9b⟩ := and_e u8b
  obtain ⟨u10a, u10b⟩ := and_e u9b
  obtain ⟨u11a, u11b⟩ := and_e u10b
  obtain ⟨u12a, u12b⟩ := and_e u11b
  obtain ⟨u13a, u13b⟩ := and_e u12b
  obtain ⟨u14a, u14b⟩ := and_e u13b
  obtain ⟨u15a, u15b⟩ := and_e u14b
  obtain ⟨u16a, u16b⟩ := and_e u15b
  obtain ⟨w_BAD_ARGUMENT, ev_BAD_ARGUMENT⟩ := exa_v u2a
  have S_BAD_ARGUMENT := Sta.start ev_BAD_ARGUMENT (Or.inr ⟨(hw _ (List.mem_of_getElem? (i := 6) rfl)), (hw _ (List.mem_of_getElem? (i := 7) rfl))⟩)
  have X_BAD_ARGUMENT := Exa.start ev_BAD_ARGUMENT u2a
  obtain ⟨w_BAD_VERB, ev_BAD_VERB⟩ := exa_v u3a
  have S_BAD_VERB := Sta.start ev_BAD_VERB (Or.inr ⟨(hw _ (List.mem_of_getElem? (i := 6) rfl)), (hw _ (List.mem_of_getElem? (i := 14) rfl))⟩)
  have X_BAD_VERB := Exa.start ev_BAD_VERB u3a
  obtain ⟨w_CANNOT_DISSEMINATE_FORMAT, ev_CANNOT_DISSEMINATE_FORMAT⟩ := exa_v u6a
  have S_CANNOT_DISSEMINATE_FORMAT := Sta.start ev_CANNOT_DISSEMINATE_FORMAT (Or.inr ⟨(hw _ (List.mem_of_getElem? (i := 6) rfl)), (hw _ (List.mem_of_getElem? (i := 17) rfl))⟩)
  have X_CANNOT_DISSEMINATE_FORMAT := Exa.start ev_CANNOT_DISSEMINATE_FORMAT u6a
  obtain ⟨w_NO_METADATA_FORMATS, ev_NO_METADATA_FORMATS⟩ := exa_v u8a
  have S_NO_METADATA_FORMATS := Sta.start ev_NO_METADATA_FORMATS (Or.inr ⟨(hw _ (List.mem_of_getElem? (i := 6) rfl)), (hw _ (List.mem_of_getElem? (i := 19) rfl))⟩)
  have X_NO_METADATA_FORMATS := Exa.start ev_NO_METADATA_FORMATS u8a
  obtain ⟨w_NO_SET_HIERARCHY, ev_NO_SET_HIERARCHY⟩ := exa_v u10a
  have S_NO_SET_HIERARCHY := Sta.start ev_NO_SET_HIERARCHY (Or.inr ⟨(hw _ (List.mem_of_getElem? (i := 6) rfl)), (hw _ (List.mem_of_getElem? (i := 21) rfl))⟩)
  have X_NO_SET_HIERARCHY := Exa.start ev_NO_SET_HIERARCHY u10a
  obtain ⟨w_BAD_RESUMPTION_TOKEN, ev_BAD_RESUMPTION_TOKEN⟩ := exa_v u12a
  have S_BAD_RESUMPTION_TOKEN := Sta.start ev_BAD_RESUMPTION_TOKEN (Or.inr ⟨(hw _ (List.mem_of_getElem? (i := 6) rfl)), (hw _ (List.mem_of_getElem? (i := 24) rfl))⟩)
  have X_BAD_RESUMPTION_TOKEN := Exa.start ev_BAD_RESUMPTION_TOKEN u12a
  obtain ⟨w_ID_DOES_NOT_EXIST, ev_ID_DOES_NOT_EXIST⟩ := exa_v u14a
  have S_ID_DOES_NOT_EXIST := Sta.start ev_ID_DOES_NOT_EXIST (Or.inr ⟨(hw _ (List.mem_of_getElem? (i := 6) rfl)), (hw _ (List.mem_of_getElem? (i := 26) rfl))⟩)
  have X_ID_DOES_NOT_EXIST := Exa.start ev_ID_DOES_NOT_EXIST u14a
  obtain ⟨w_NO_RECORDS_MATCH, ev_NO_RECORDS_MATCH⟩ := exa_v u16a
  have S_NO_RECORDS_MATCH := Sta.start ev_NO_RECORDS_MATCH (Or.inr ⟨(hw _ (List.mem_of_getElem? (i := 6) rfl)), (hw _ (List.mem_of_getElem? (i := 28) rfl))⟩)
  have X_NO_RECORDS_MATCH := Exa.start ev_NO_RECORDS_MATCH u16a
  have F_BAD_ARGUMENT_ordinal := own_fld0 ev_BAD_ARGUMENT u4a
  have F_BAD_VERB_ordinal := own_fld0 ev_BAD_VERB u5a
  have F_CANNOT_DISSEMINATE_FORMAT_ordinal := own_fld0 ev_CANNOT_DISSEMINATE_FORMAT u7a
  have F_NO_METADATA_FORMATS_ordinal := own_fld0 ev_NO_METADATA_FORMATS u9a
  have F_NO_SET_HIERARCHY_ordinal := own_fld0 ev_NO_SET_HIERARCHY u11a
  have F_BAD_RESUMPTION_TOKEN_ordinal := own_fld0 ev_BAD_RESUMPTION_TOKEN u13a
  have F_ID_DOES_NOT_EXIST_ordinal := own_fld0 ev_ID_DOES_NOT_EXIST u15a
  have F_NO_RECORDS_MATCH_ordinal := own_fld0 ev_NO_RECORDS_MATCH u16b
  have D : own_D w_BAD_ARGUMENT w_BAD_RESUMPTION_TOKEN w_BAD_VERB w_CANNOT_DISSEMINATE_FORMAT w_ID_DOES_NOT_EXIST w_NO_RECORDS_MATCH w_NO_METADATA_FORMATS w_NO_SET_HIERARCHY := ⟨own_neF F_BAD_RESUMPTION_TOKEN_ordinal F_BAD_ARGUMENT_ordinal (by decide), own_neF F_BAD_VERB_ordinal F_BAD_ARGUMENT_ordinal (by decide), own_neF F_CANNOT_DISSEMINATE_FORMAT_ordinal F_BAD_ARGUMENT_ordinal (by decide), own_neF F_ID_DOES_NOT_EXIST_ordinal F_BAD_ARGUMENT_ordinal (by decide), own_neF F_NO_RECORDS_MATCH_ordinal F_BAD_ARGUMENT_ordinal (by decide), own_neF F_NO_METADATA_FORMATS_ordinal F_BAD_ARGUMENT_ordinal (by decide), own_neF F_NO_SET_HIERARCHY_ordinal F_BAD_ARGUMENT_ordinal (by decide), own_neF F_BAD_ARGUMENT_ordinal F_BAD_VERB_ordinal (by decide), own_neF F_BAD_RESUMPTION_TOKEN_ordinal F_BAD_VERB_ordinal (by decide), own_neF F_CANNOT_DISSEMINATE_FORMAT_ordinal F_BAD_VERB_ordinal (by decide), own_neF F_ID_DOES_NOT_EXIST_ordinal F_BAD_VERB_ordinal (by decide), own_neF F_NO_RECORDS_MATCH_ordinal F_BAD_VERB_ordinal (by decide), own_neF F_NO_METADATA_FORMATS_ordinal F_BAD_VERB_ordinal (by decide), own_neF F_NO_SET_HIERARCHY_ordinal F_BAD_VERB_ordinal (by decide)⟩
  obtain ⟨n, o, h1, h2, h3, _, L, rfl, ⟨rfl, N⟩, hq⟩ := rm_0 l s _ hw tables_1 i0 w_BAD_ARGUMENT w_BAD_RESUMPTION_TOKEN w_BAD_VERB w_CANNOT_DISSEMINATE_FORMAT w_ID_DOES_NOT_EXIST w_NO_RECORDS_MATCH w_NO_METADATA_FORMATS w_NO_SET_HIERARCHY s.heap s.heap.size (Old.start s) S_BAD_ARGUMENT S_BAD_RESUMPTION_TOKEN S_BAD_VERB S_CANNOT_DISSEMINATE_FORMAT S_ID_DOES_NOT_EXIST S_NO_RECORDS_MATCH S_NO_METADATA_FORMATS S_NO_SET_HIERARCHY X_BAD_ARGUMENT X_BAD_RESUMPTION_TOKEN X_BAD_VERB X_CANNOT_DISSEMINATE_FORMAT X_ID_DOES_NOT_EXIST X_NO_RECORDS_MATCH X_NO_METADATA_FORMATS X_NO_SET_HIERARCHY D p e ha hc hk s m _ below hf ((Spec.applies_iff_loose hf).mp happ).1 ⟨rfl, State.Warmed39.refl s, rfl⟩ trivial
  refine ⟨n, _, h1, h2, h3, hpost _ _ _ _ _ _ ⟨Cond.after_iff.mpr rfl, Cond.after_iff.mpr (eq_i res_at (Term.int_eval (1)) rfl), trivial⟩ ⟨hq.1, hq.2.1, (hq.2.2.sift fun y hy => Or.inr (N y hy)).mono (by decide) (by decide)⟩⟩
theorem main_1_1 : Claimed_1_1 := comes_1 fun _ _ _ _ _ _ h hF => ⟨h.1, hF⟩
theorem main_1_2 : Claimed_1_2 := comes_1 fun _ _ _ _ _ _ h hF => ⟨h.2.1, hF⟩
end Jvm.Pilot.@@N@@
namespace Jvm.Pilot.@@N@@
open Jvm Jvm.ClassFile Sem Op Lib Jvm.Free Jvm.Stand Jvm.Pilot.@@N@@.Jvm.D
/-! MADE BY PROGRAM (witnessworld.py) out of the Statement's table words and the real class files: 12 classes; the members and pool entries that the words name. The judged class is class 1, her method 1. -/
namespace start1
open Jvm.ClassFile
def u (s : String) : CpInfo := .utf8 (stringToUtf16 s)
/-- a pool by its gaps: so many unusable entries, then the entry; so many at the end -/
def gap : Nat → List CpInfo → List CpInfo
  | 0, r => r
  | n + 1, r => .unusable :: gap n r
def poolList (es : List (Nat × CpInfo)) (last : Nat) : List CpInfo := es.foldr (fun e r => gap e.1 (e.2 :: r)) (gap last [])
def pool (es : List (Nat × CpInfo)) (last : Nat) : Array CpInfo := ⟨poolList es last⟩
def fileOf (pool : Array CpInfo) (this : Nat) (attrs : Array Attribute := #[]) (ms : Array MethodInfo := #[]) (fl : Nat := 33) (sup : Nat := 0) (ifs : Array Nat := #[]) (fds : Array FieldInfo := #[]) : ClassFile where
  minorVersion := 0
  majorVersion := 65
  constantPool := pool
  accessFlags := fl
  thisClass := this
  superClass := sup
  interfaces := ifs
  fields := fds
  methods := ms
  attributes := attrs
def plain (name : String) (sup : Option ClassId) : Class where
  name := name
  kind := .ordinary
  loader := none
  accessFlags := 33
  super := sup
  interfaces := #[]
  cf := none
  fields := #[]
  methods := #[]
  instanceTypes := #[]
  staticTypes := #[]
  resolved := #[]
  callSites := []
  init := .initialized
  statics := none
  mirror := none

def pool0 : Array CpInfo := pool [(5, u "<init>"), (0, u "()V"), (1, .class_ 10), (1, u "java/lang/Object")] 113

def k0m0 : Method := { name := "<init>", desc := "()V", sig := { parameters := [], returnType := none }, accessFlags := 1, code := none }
/-- java/lang/Object -/
def k0 : Class := { plain "java/lang/Object" none with
  accessFlags := 33
  interfaces := #[]
  cf := some (fileOf pool0 8 #[] #[{ accessFlags := 1, nameIndex := 5, descriptorIndex := 6, attributes := #[] }] 33 0 #[] #[])
  fields := #[]
  methods := #[k0m0]
  instanceTypes := #[]
  staticTypes := #[]
  resolved := Array.replicate 124 none
  statics := none }

def pool1 : Array CpInfo := pool [(2, .class_ 4), (1, u "java/lang/Object"), (0, u "<init>"), (0, u "()V"), (0, .integer 2147483647), (0, .methodref 9 10), (0, .class_ 11), (0, .nameAndType 12 13), (0, u "com/example/sheafgate/sheafgate/oai/ErrorCodeRejectsRequestPinLaw"), (0, u "pick"), (0, u "(I)Lcom/example/sheafgate/sheafgate/oai/OaiException$ErrorCode;"), (0, .methodref 15 16), (0, .class_ 17), (0, .nameAndType 18 19), (0, u "com/example/sheafgate/sheafgate/oai/OaiException$ErrorCode"), (0, u "rejectsRequest"), (0, u "()Z"), (0, .fieldref 15 21), (0, .nameAndType 22 23), (0, u "BAD_ARGUMENT"), (0, u "Lcom/example/sheafgate/sheafgate/oai/OaiException$ErrorCode;"), (0, .fieldref 15 25), (0, .nameAndType 26 23), (0, u "BAD_RESUMPTION_TOKEN"), (0, .fieldref 15 28), (0, .nameAndType 29 23), (0, u "BAD_VERB"), (0, .fieldref 15 31), (0, .nameAndType 32 23), (0, u "CANNOT_DISSEMINATE_FORMAT"), (0, .fieldref 15 34), (0, .nameAndType 35 23), (0, u "ID_DOES_NOT_EXIST"), (0, .fieldref 15 37), (0, .nameAndType 38 23), (0, u "NO_RECORDS_MATCH"), (0, .fieldref 15 40), (0, .nameAndType 41 23), (0, u "NO_METADATA_FORMATS"), (0, .fieldref 15 43), (0, .nameAndType 44 23), (0, u "NO_SET_HIERARCHY"), (2, u "law"), (0, u "(I)Z")] 7

def k1m0 : Method := { name := "<init>", desc := "()V", sig := { parameters := [], returnType := none }, accessFlags := 1, code := none }
def k1c1 : Code := { maxStack := 2, maxLocals := 4, code := code, exceptionTable := #[], attributes := #[] }
def k1m1 : Method := { name := "law", desc := "(I)Z", sig := { parameters := [.int], returnType := some .boolean }, accessFlags := 9, code := some k1c1 }
def k1c2 : Code := { maxStack := 2, maxLocals := 1, code := method_3_code, exceptionTable := #[], attributes := #[] }
def k1m2 : Method := { name := "pick", desc := "(I)Lcom/example/sheafgate/sheafgate/oai/OaiException$ErrorCode;", sig := { parameters := [.int], returnType := some (.object "com/example/sheafgate/sheafgate/oai/OaiException$ErrorCode") }, accessFlags := 10, code := some k1c2 }
/-- com/example/sheafgate/sheafgate/oai/ErrorCodeRejectsRequestPinLaw -/
def k1 : Class := { plain "com/example/sheafgate/sheafgate/oai/ErrorCodeRejectsRequestPinLaw" (some 0) with
  accessFlags := 49
  interfaces := #[]
  cf := some (fileOf pool1 9 #[] #[{ accessFlags := 1, nameIndex := 5, descriptorIndex := 6, attributes := #[] }, { accessFlags := 9, nameIndex := 47, descriptorIndex := 48, attributes := #[] }, { accessFlags := 10, nameIndex := 12, descriptorIndex := 13, attributes := #[] }] 49 2 #[] #[])
  fields := #[]
  methods := #[k1m0, k1m1, k1m2]
  instanceTypes := #[]
  staticTypes := #[]
  resolved := Array.replicate 56 none
  statics := none }

def pool2 : Array CpInfo := pool [(1, .class_ 2), (0, u "java/lang/constant/Constable"), (0, .class_ 4), (0, u "java/lang/Object")] 6

/-- java/lang/constant/Constable -/
def k2 : Class := { plain "java/lang/constant/Constable" (some 0) with
  accessFlags := 1537
  interfaces := #[]
  cf := some (fileOf pool2 1 #[] #[] 1537 3 #[] #[])
  fields := #[]
  methods := #[]
  instanceTypes := #[]
  staticTypes := #[]
  resolved := Array.replicate 11 none
  statics := none }

def pool3 : Array CpInfo := pool [(1, .class_ 2), (0, u "java/lang/Comparable"), (0, .class_ 4), (0, u "java/lang/Object")] 7

/-- java/lang/Comparable -/
def k3 : Class := { plain "java/lang/Comparable" (some 0) with
  accessFlags := 1537
  interfaces := #[]
  cf := some (fileOf pool3 1 #[] #[] 1537 3 #[] #[])
  fields := #[]
  methods := #[]
  instanceTypes := #[]
  staticTypes := #[]
  resolved := Array.replicate 12 none
  statics := none }

def pool4 : Array CpInfo := pool [(1, .class_ 2), (0, u "java/io/Serializable"), (0, .class_ 4), (0, u "java/lang/Object")] 2

/-- java/io/Serializable -/
def k4 : Class := { plain "java/io/Serializable" (some 0) with
  accessFlags := 1537
  interfaces := #[]
  cf := some (fileOf pool4 1 #[] #[] 1537 3 #[] #[])
  fields := #[]
  methods := #[]
  instanceTypes := #[]
  staticTypes := #[]
  resolved := Array.replicate 7 none
  statics := none }

def pool5 : Array CpInfo := pool [(2, .class_ 4), (1, u "java/lang/Enum"), (0, u "name"), (0, u "Ljava/lang/String;"), (2, u "ordinal"), (0, u "I"), (1, .class_ 14), (1, u "java/lang/Object"), (4, u "hash"), (86, .class_ 108), (1, u "java/lang/Enum$EnumDesc"), (2, .class_ 112), (0, u "java/lang/constant/Constable"), (0, .class_ 114), (0, u "java/lang/Comparable"), (0, .class_ 116), (0, u "java/io/Serializable")] 87

/-- java/lang/Enum -/
def k5 : Class := { plain "java/lang/Enum" (some 0) with
  accessFlags := 1057
  interfaces := #[2, 3, 4]
  cf := some (fileOf pool5 2 #[.nestMembers #[106]] #[] 1057 12 #[111, 113, 115] #[{ accessFlags := 18, nameIndex := 5, descriptorIndex := 6, attributes := #[] }, { accessFlags := 18, nameIndex := 9, descriptorIndex := 10, attributes := #[] }, { accessFlags := 2, nameIndex := 19, descriptorIndex := 10, attributes := #[] }])
  fields := #[{ name := "name", type := (.object "java/lang/String"), accessFlags := 18, slot := 0, constantValue := 0 }, { name := "ordinal", type := .int, accessFlags := 18, slot := 1, constantValue := 0 }, { name := "hash", type := .int, accessFlags := 2, slot := 2, constantValue := 0 }]
  methods := #[]
  instanceTypes := #[(.object "java/lang/String"), .int, .int]
  staticTypes := #[]
  resolved := Array.replicate 204 none
  statics := none }

def pool6 : Array CpInfo := pool [(1, .class_ 2), (0, u "com/example/sheafgate/sheafgate/oai/OaiException$ErrorCode"), (0, .fieldref 1 4), (0, .nameAndType 5 6), (0, u "BAD_ARGUMENT"), (0, u "Lcom/example/sheafgate/sheafgate/oai/OaiException$ErrorCode;"), (2, u "BAD_RESUMPTION_TOKEN"), (0, .fieldref 1 11), (0, .nameAndType 12 6), (0, u "BAD_VERB"), (2, u "CANNOT_DISSEMINATE_FORMAT"), (2, u "ID_DOES_NOT_EXIST"), (2, u "NO_RECORDS_MATCH"), (2, u "NO_METADATA_FORMATS"), (2, u "NO_SET_HIERARCHY"), (2, u "$VALUES"), (0, u "[Lcom/example/sheafgate/sheafgate/oai/OaiException$ErrorCode;"), (6, .class_ 40), (1, u "java/lang/Enum"), (8, u "code"), (0, u "Ljava/lang/String;"), (0, .class_ 52), (0, u "com/example/sheafgate/sheafgate/oai/OaiException"), (42, u "rejectsRequest"), (0, u "()Z")] 11

def k6c0 : Code := { maxStack := 2, maxLocals := 1, code := prog_19_method_5_code, exceptionTable := #[], attributes := #[] }
def k6m0 : Method := { name := "rejectsRequest", desc := "()Z", sig := { parameters := [], returnType := some .boolean }, accessFlags := 0, code := some k6c0 }
/-- com/example/sheafgate/sheafgate/oai/OaiException$ErrorCode -/
def k6 : Class := { plain "com/example/sheafgate/sheafgate/oai/OaiException$ErrorCode" (some 5) with
  accessFlags := 16432
  interfaces := #[]
  cf := some (fileOf pool6 1 #[.nestHost 51] #[{ accessFlags := 0, nameIndex := 95, descriptorIndex := 96, attributes := #[] }] 16432 38 #[] #[{ accessFlags := 16409, nameIndex := 5, descriptorIndex := 6, attributes := #[] }, { accessFlags := 16409, nameIndex := 9, descriptorIndex := 6, attributes := #[] }, { accessFlags := 16409, nameIndex := 12, descriptorIndex := 6, attributes := #[] }, { accessFlags := 16409, nameIndex := 15, descriptorIndex := 6, attributes := #[] }, { accessFlags := 16409, nameIndex := 18, descriptorIndex := 6, attributes := #[] }, { accessFlags := 16409, nameIndex := 21, descriptorIndex := 6, attributes := #[] }, { accessFlags := 16409, nameIndex := 24, descriptorIndex := 6, attributes := #[] }, { accessFlags := 16409, nameIndex := 27, descriptorIndex := 6, attributes := #[] }, { accessFlags := 18, nameIndex := 49, descriptorIndex := 50, attributes := #[] }, { accessFlags := 4122, nameIndex := 30, descriptorIndex := 31, attributes := #[] }])
  fields := #[{ name := "BAD_ARGUMENT", type := (.object "com/example/sheafgate/sheafgate/oai/OaiException$ErrorCode"), accessFlags := 16409, slot := 0, constantValue := 0 }, { name := "BAD_RESUMPTION_TOKEN", type := (.object "com/example/sheafgate/sheafgate/oai/OaiException$ErrorCode"), accessFlags := 16409, slot := 1, constantValue := 0 }, { name := "BAD_VERB", type := (.object "com/example/sheafgate/sheafgate/oai/OaiException$ErrorCode"), accessFlags := 16409, slot := 2, constantValue := 0 }, { name := "CANNOT_DISSEMINATE_FORMAT", type := (.object "com/example/sheafgate/sheafgate/oai/OaiException$ErrorCode"), accessFlags := 16409, slot := 3, constantValue := 0 }, { name := "ID_DOES_NOT_EXIST", type := (.object "com/example/sheafgate/sheafgate/oai/OaiException$ErrorCode"), accessFlags := 16409, slot := 4, constantValue := 0 }, { name := "NO_RECORDS_MATCH", type := (.object "com/example/sheafgate/sheafgate/oai/OaiException$ErrorCode"), accessFlags := 16409, slot := 5, constantValue := 0 }, { name := "NO_METADATA_FORMATS", type := (.object "com/example/sheafgate/sheafgate/oai/OaiException$ErrorCode"), accessFlags := 16409, slot := 6, constantValue := 0 }, { name := "NO_SET_HIERARCHY", type := (.object "com/example/sheafgate/sheafgate/oai/OaiException$ErrorCode"), accessFlags := 16409, slot := 7, constantValue := 0 }, { name := "code", type := (.object "java/lang/String"), accessFlags := 18, slot := 3, constantValue := 0 }, { name := "$VALUES", type := (.array (.object "com/example/sheafgate/sheafgate/oai/OaiException$ErrorCode")), accessFlags := 4122, slot := 8, constantValue := 0 }]
  methods := #[k6m0]
  instanceTypes := #[(.object "java/lang/String"), .int, .int, (.object "java/lang/String")]
  staticTypes := #[(.object "com/example/sheafgate/sheafgate/oai/OaiException$ErrorCode"), (.object "com/example/sheafgate/sheafgate/oai/OaiException$ErrorCode"), (.object "com/example/sheafgate/sheafgate/oai/OaiException$ErrorCode"), (.object "com/example/sheafgate/sheafgate/oai/OaiException$ErrorCode"), (.object "com/example/sheafgate/sheafgate/oai/OaiException$ErrorCode"), (.object "com/example/sheafgate/sheafgate/oai/OaiException$ErrorCode"), (.object "com/example/sheafgate/sheafgate/oai/OaiException$ErrorCode"), (.object "com/example/sheafgate/sheafgate/oai/OaiException$ErrorCode"), (.array (.object "com/example/sheafgate/sheafgate/oai/OaiException$ErrorCode"))]
  resolved := Array.replicate 108 none
  statics := some 0 }

def pool7 : Array CpInfo := pool [(1, u "java/lang/Cloneable"), (0, .class_ 1), (0, u "java/lang/Object"), (0, .class_ 3)] 3

/-- java/lang/Cloneable -/
def k7 : Class := { plain "java/lang/Cloneable" (some 0) with
  accessFlags := 1537
  interfaces := #[]
  cf := some (fileOf pool7 2 #[] #[] 1537 4 #[] #[])
  fields := #[]
  methods := #[]
  instanceTypes := #[]
  staticTypes := #[]
  resolved := Array.replicate 8 none
  statics := none }

/-- the primitive byte -/
def k8 : Class := { plain "byte" none with kind := .primitive 'B', accessFlags := 0x411 }
/-- [B -/
def k9 : Class := { plain "[B" (some 0) with kind := .array 8 .byte, interfaces := #[7, 4], accessFlags := 1041 }

/-- the primitive int -/
def k10 : Class := { plain "int" none with kind := .primitive 'I', accessFlags := 0x411 }
/-- [I -/
def k11 : Class := { plain "[I" (some 0) with kind := .array 10 .int, interfaces := #[7, 4], accessFlags := 1041 }

def heap : Heap := #[{ cls := 6, slots := #[.ref 1, .ref 2, .ref 3, .ref 4, .ref 5, .ref 6, .ref 7, .ref 8, .null], vm := .statics 6 },
  { cls := 6, slots := #[.null, .int 0, .int 0, .null], vm := .none },
  { cls := 6, slots := #[.null, .int 1, .int 0, .null], vm := .none },
  { cls := 6, slots := #[.null, .int 2, .int 0, .null], vm := .none },
  { cls := 6, slots := #[.null, .int 3, .int 0, .null], vm := .none },
  { cls := 6, slots := #[.null, .int 4, .int 0, .null], vm := .none },
  { cls := 6, slots := #[.null, .int 5, .int 0, .null], vm := .none },
  { cls := 6, slots := #[.null, .int 6, .int 0, .null], vm := .none },
  { cls := 6, slots := #[.null, .int 7, .int 0, .null], vm := .none }]
def classes : Array Class := #[k0, k1, k2, k3, k4, k5, k6, k7, k8, k9, k10, k11]
def interned : List (Array UInt16 × Addr) := []
def slotsUsed : Nat := 41
def theMethod : MethodId := ⟨1, 1⟩
def args0 : Array Value := #[.int 5]
def aboutOver (below : List Frame) : State where
  vm := { classes := classes, interned := interned.toArray }
  heap := heap
  slotsUsed := slotsUsed
  threads := #[{ frames := .invoking theMethod args0 :: below }]
def below0 : List Frame := [.native { method := ⟨0, 0⟩, args := #[] }]
def about1 : State := aboutOver below0
def p0 : Program := .bare "" "" ""
def e0 : Env := launch0.env 0 0 0
theorem w_frames : about1.frames = Frame.invoking theMethod args0 :: below0 := rfl
set_option maxRecDepth 65536 in
theorem w_args : argsFit about1.vm theMethod args0 = true := by decide +kernel
set_option maxRecDepth 65536 in
theorem w_heap : heapFits about1 = true := by decide +kernel
set_option maxRecDepth 65536 in
theorem w_runnable : about1.curStatus? = some .runnable := by decide +kernel
set_option maxRecDepth 65536 in
theorem w_alone : about1.alone = true := by decide +kernel
set_option maxRecDepth 65536 in
theorem w_named : about1.methodNamed? x = some theMethod := by decide +kernel
set_option maxRecDepth 65536 in
theorem w_hears : about1.hears theMethod below0 = true := by decide +kernel
set_option maxRecDepth 65536 in
theorem w_ripe : about1.ripe theMethod args0 below0 = true := by decide +kernel
theorem w_running : about1.status = .running := rfl
set_option maxRecDepth 65536 in
theorem w_room : about1.hasRoom e0.platform room_1 = true :=
  launch0.hasRoom_least _ room_1 (by decide +kernel) (by decide +kernel) (by decide +kernel) (by decide +kernel) (by decide +kernel) (by decide +kernel)
theorem allAtoms_all (ts : List Jvm.Cond) (a : Array Jvm.Value) (st : Jvm.State) : (allAtoms ts).before a st = ts.all (fun c => c.before a st) := by
  induction ts with
  | nil => rfl
  | cons c t ih =>
    show (Jvm.Cond.and c (allAtoms t)).before a st = _
    rw [Jvm.Cond.before_and, ih, List.all_cons]
def words1 : List Jvm.Cond := Jvm.Cond.code x code maxLocals ret :: tables_1
/-- a 'code' word, met by the world's own term for the bytes: nothing is compared byte by byte -/
theorem code_word {y : MethodName} {bytes : ByteArray} {mx : Nat} {rt : Option FieldType} {a : Array Value} {s : State} {m : MethodId} {meth : Method} {c : Code} (h1 : s.methodNamed? y = some m) (h2 : s.vm.method? m = some meth) (h3 : meth.code = some c) (h4 : c.code = bytes)
    (h5 : (c.maxLocals == mx && c.exceptionTable.isEmpty && decide (c.maxStack ≤ mostOperands) && decide (meth.sig.returnType = rt) && !meth.locks && decide (parseMethodDescriptor y.desc = some meth.sig)) = true) : (Jvm.Cond.code y bytes mx rt).before a s = true := by
  simp only [Bool.and_eq_true, beq_iff_eq, Bool.not_eq_true', decide_eq_true_eq] at h5
  obtain ⟨⟨⟨⟨⟨g1, g2⟩, g3⟩, g4⟩, g5⟩, g6⟩ := h5
  simp [Cond.before, Cond.holds, Cond.value, h1, h2, h3, h4, g1, g2, g3, g4, g5, g6]
def isCode : Jvm.Cond → Bool
  | .code _ _ _ _ => true
  | _ => false
theorem all_split {L : List Jvm.Cond} {P : Jvm.Cond → Bool} (h1 : L.all (fun c => isCode c || P c) = true) (h2 : ∀ c ∈ L.filter isCode, P c = true) : L.all P = true := by
  refine List.all_eq_true.mpr fun c hc => ?_
  have h := List.all_eq_true.mp h1 c hc
  rcases Bool.eq_false_or_eq_true (isCode c) with hi | hi
  · exact h2 c (List.mem_filter.mpr ⟨hc, hi⟩)
  · simpa [hi] using h
set_option maxRecDepth 65536 in
theorem w_c0 : (Jvm.Cond.code x code maxLocals ret).before args0 about1 = true := code_word (m := ⟨1, 1⟩) (meth := k1m1) (c := k1c1) (by decide +kernel) rfl rfl rfl (by decide +kernel)
set_option maxRecDepth 65536 in
theorem w_c1 : (Jvm.Cond.code ({ cls := "com/example/sheafgate/sheafgate/oai/ErrorCodeRejectsRequestPinLaw", name := "pick", desc := "(I)Lcom/example/sheafgate/sheafgate/oai/OaiException$ErrorCode;" } : Jvm.MethodName) method_3_code (1 : Nat) (Option.some (Jvm.ClassFile.FieldType.object "com/example/sheafgate/sheafgate/oai/OaiException$ErrorCode"))).before args0 about1 = true := code_word (m := ⟨1, 2⟩) (meth := k1m2) (c := k1c2) (by decide +kernel) rfl rfl rfl (by decide +kernel)
set_option maxRecDepth 65536 in
theorem w_c2 : (Jvm.Cond.code ({ cls := "com/example/sheafgate/sheafgate/oai/OaiException$ErrorCode", name := "rejectsRequest", desc := "()Z" } : Jvm.MethodName) prog_19_method_5_code (1 : Nat) (Option.some Jvm.ClassFile.FieldType.boolean)).before args0 about1 = true := code_word (m := ⟨6, 0⟩) (meth := k6m0) (c := k6c0) (by decide +kernel) rfl rfl rfl (by decide +kernel)
def codes1 : List Jvm.Cond := [Jvm.Cond.code x code maxLocals ret, Jvm.Cond.code ({ cls := "com/example/sheafgate/sheafgate/oai/ErrorCodeRejectsRequestPinLaw", name := "pick", desc := "(I)Lcom/example/sheafgate/sheafgate/oai/OaiException$ErrorCode;" } : Jvm.MethodName) method_3_code (1 : Nat) (Option.some (Jvm.ClassFile.FieldType.object "com/example/sheafgate/sheafgate/oai/OaiException$ErrorCode")), Jvm.Cond.code ({ cls := "com/example/sheafgate/sheafgate/oai/OaiException$ErrorCode", name := "rejectsRequest", desc := "()Z" } : Jvm.MethodName) prog_19_method_5_code (1 : Nat) (Option.some Jvm.ClassFile.FieldType.boolean)]
set_option maxRecDepth 65536 in
theorem codes_eq : words1.filter isCode = codes1 := rfl
theorem w_codes : ∀ c ∈ words1.filter isCode, c.before args0 about1 = true := by
  rw [codes_eq]
  intro c hc
  simp only [codes1, List.mem_cons, List.not_mem_nil, or_false] at hc
  rcases hc with rfl | rfl | rfl
  · exact w_c0
  · exact w_c1
  · exact w_c2
set_option maxRecDepth 65536 in
theorem w_t1 : (words1.take 24).all (fun c => isCode c || c.before args0 about1) = true := by decide +kernel
set_option maxRecDepth 65536 in
theorem w_t2 : (words1.drop 24).all (fun c => isCode c || c.before args0 about1) = true := by decide +kernel
theorem w_tables : (allAtoms (Jvm.Cond.code x code maxLocals ret :: tables_1)).before args0 about1 = true := by
  rw [allAtoms_all]
  show words1.all (fun c => c.before args0 about1) = true
  refine all_split ?_ w_codes
  rw [← List.take_append_drop 24 words1, List.all_append, w_t1, w_t2]
  rfl
set_option maxRecDepth 65536 in
theorem w_case : (Jvm.Cond.and given_1 narrow_1).before args0 about1 = true := by decide +kernel
theorem w_applies : (headSpec (Jvm.Cond.code x code maxLocals ret :: tables_1) room_1).applies x e0.platform about1 = true :=
  (Spec.applies_iff w_frames).mpr ⟨w_running, w_runnable, w_alone, w_named, w_hears, w_ripe, w_room, w_tables⟩
theorem atStart : AtStart classFile x code maxLocals ret World_1 tables_1 room_1 Calls_1 rest_1 Pre_1 launch0 p0 e0 about1 theMethod args0 below0 :=
  ⟨lists_1, trivial, launch0.admits_env _ _ _, launch0.least_env, fairChoices_fair.cas, fairChoices_fair.clock, w_frames, w_args, w_heap, w_applies, trivial, trivial, w_case⟩
end start1
theorem witness_1 : WitnessClaimed_1 := ⟨start1.p0, start1.e0, start1.about1, start1.theMethod, start1.args0, start1.below0, start1.atStart⟩
end Jvm.Pilot.@@N@@
