import JvmDerived
import JvmDerived.Pilot.@@N@@Statement
import JvmDerived.Pilot.@@N@@Code
set_option linter.unusedVariables false
set_option linter.unusedSimpArgs false
namespace Jvm.Pilot.@@N@@
open Jvm Jvm.ClassFile Sem Op Lib Jvm.Free Jvm.Stand Jvm.LawKit Jvm.RoadKit Bundle Jvm.Pilot.@@N@@.Jvm.D
/-- from the point (T, g) the body comes to its end, with what P says of value, heap and places -/
def own_E (p : Program) (e : Env) (below : List Frame) (s : State) (k n : Nat) (P : Option Value → Heap → List Loc → Prop) (T : State) (g : JFrame) : Prop :=
  ∃ s₂ o, Steps p.tables e below (T.setTop g) s₂ ∧ s₂.status = .running ∧ Ended s₂ below o ∧ ∃ v L, o = .returned v ∧ P v s₂.heap L ∧ FrameEnd s o s₂ L k n
/-- what a law leaves: true, and nothing old written -/
def own_L (n0 : Nat) (v : Option Value) (h : Heap) (L : List Loc) : Prop := v = some (.int (1 : Int32)) ∧ Fr n0 L
section Own
variable {p : Program} {l : Launch} {e : Env} {R : Room} {s : State} {m : MethodId} {args : Array Value} {below : List Frame} {meth : Method} {c : Code} {T T' : State} {locs : List Loc} {cells slots : Nat} {k n : Nat} {P : Option Value → Heap → List Loc → Prop} {g g' : JFrame}
theorem own_st (h : ∀ t, Steps p.tables e below (T'.setTop g') t → Steps p.tables e below (T.setTop g) t) (E : own_E p e below s k n P T' g') : own_E p e below s k n P T g := by
  obtain ⟨s₂, o, h1, r⟩ := E; exact ⟨s₂, o, h _ h1, r⟩
theorem own_end (X : Stand p l e R s m args below meth c T locs cells slots) {v : Option Value} (hv : meth.sig.returnType = none → v = none) (hlk : meth.locks = false) (hk : cells ≤ k) (hn : slots ≤ n) (hP : P v T.heap locs)
    (h : ∀ fs : List Frame, (∀ (f : JFrame) (acts : List Action), f.method = m → f.locked = none → f.entered = [] → (doReturn e (T.setTop f) acts v).1 = T.setFrames fs) → Steps p.tables e below (T.setTop g) (T.setFrames fs)) : own_E p e below s k n P T g := by
  obtain ⟨fs, hr, hrun, hended, hW, hsame⟩ := X.leave (v := v) hv hlk
  exact ⟨_, _, h fs hr, hrun, hended, _, _, rfl, hP, ⟨_, rfl⟩, hW, hsame.mono hk hn⟩
theorem own_retV (X : Stand p l e R s m args below meth c T locs cells slots) (hx : p.tables.exec = Jvm.exec) (hret : meth.sig.returnType = none) (hlk : meth.locks = false) {pc : Nat} {Ls : Array Slot} (hd : decode c.code pc = .ok (.return_, 1)) (hk : cells ≤ k) (hn : slots ≤ n) (hP : P none T.heap locs) : own_E p e below s k n P T (mkF m pc Ls []) :=
  own_end X (fun _ => rfl) hlk hk hn hP fun _ hr => X.returnOut hx hret hd hr
theorem own_retN (X : Stand p l e R s m args below meth c T locs cells slots) (hx : p.tables.exec = Jvm.exec) {t : FieldType} (hret : meth.sig.returnType = some t) (ht : t = .boolean ∨ t = .byte ∨ t = .char ∨ t = .short) (hlk : meth.locks = false) {pc : Nat} {Ls : Array Slot} {z : Int32} {rest : List Value} (hd : decode c.code pc = .ok (.ireturn, 1)) (hk : cells ≤ k) (hn : slots ≤ n) (hP : P (some (.int (nar t z))) T.heap locs) : own_E p e below s k n P T (mkF m pc Ls (.int z :: rest)) :=
  own_end X (fun h => by rw [hret] at h; cases h) hlk hk hn hP fun _ hr => retN X hx hret ht hd hr
theorem own_retI (X : Stand p l e R s m args below meth c T locs cells slots) (hx : p.tables.exec = Jvm.exec) (hret : meth.sig.returnType = some .int) (hlk : meth.locks = false) {pc : Nat} {Ls : Array Slot} {z : Int32} {rest : List Value} (hd : decode c.code pc = .ok (.ireturn, 1)) (hk : cells ≤ k) (hn : slots ≤ n) (hP : P (some (.int z)) T.heap locs) : own_E p e below s k n P T (mkF m pc Ls (.int z :: rest)) :=
  own_end X (fun h => by rw [hret] at h; cases h) hlk hk hn hP fun _ hr => retOut X hx hret rfl (Or.inl ⟨rfl, Or.inl rfl, z, rfl⟩) hd hr
theorem own_narR {t : FieldType} {v : Value} (ht : t.isReference = true) : narrow t v = v := by cases t <;> first | (cases ht; done) | (cases v <;> rfl)
theorem own_retA (X : Stand p l e R s m args below meth c T locs cells slots) (hx : p.tables.exec = Jvm.exec) {t : FieldType} (hret : meth.sig.returnType = some t) (ht : t.isReference = true) {w : Value} (hw : w.isRef = true) (hlk : meth.locks = false) {pc : Nat} {Ls : Array Slot} {rest : List Value} (hd : decode c.code pc = .ok (.areturn, 1)) (hk : cells ≤ k) (hn : slots ≤ n) (hP : P (some w) T.heap locs) : own_E p e below s k n P T (mkF m pc Ls (w :: rest)) :=
  own_end X (fun h => by rw [hret] at h; cases h) hlk hk hn hP fun _ hr => retOut X hx hret (own_narR ht) (Or.inr (Or.inr (Or.inr (Or.inr ⟨rfl, ht, hw⟩)))) hd hr
end Own
/-! the calls, their figures said plainly -/
section OwnCalls
variable {p : Program} {l : Launch} {e : Env} {R : Room} {s : State} {m : MethodId} {args : Array Value} {below : List Frame} {meth : Method} {c : Code} {T : State} {locs : List Loc} {cells slots : Nat} {W : Nat} {rm : Room} {as' : Array Value} {Q : Option Value → Heap → List Loc → Prop} {h : Heap} {c' s' : Nat}
theorem own_callS (X : Stand p l e R s m args below meth c T locs cells slots) (hx : p.tables.exec = Jvm.exec) {own : String} {index : Nat} {y : MethodName} {bytes : ByteArray} {maxL : Nat} {ret : Option FieldType} (hown : s.vm.findClass own = some m.cls) (hlink : (Cond.methodLink own index y).before args s = true) (hstat : (Cond.static y).before args s = true) (hinit : (Cond.initialized y.cls).before args s = true) (hcode : (Cond.code y bytes maxL ret).before args s = true) (hy : y.cls ≠ "java/lang/invoke/MethodHandle" ∧ y.cls ≠ "java/lang/invoke/VarHandle") (hK : Back l R p e below s args y 3 W (fun A a => a = as' ∧ A.U.heap = h ∧ A.cells + rm.cells ≤ R.cells ∧ A.slots + rm.slots ≤ R.slots) (fun A _ v B => ∃ L, Q v B.U.heap L ∧ B.locs = A.locs ++ L ∧ B.cells = A.cells + rm.cells ∧ B.slots = A.slots + rm.slots)) {g : JFrame} (hg : g.method = m) (hsize : g.locals.size = c.maxLocals) {argsL rest : List Value} (hlen : ∀ sig, parseMethodDescriptor y.desc = some sig → argsL.length = sig.parameters.length) (hstack : g.stack = argsL.reverse ++ rest) (hW : 2 * g.monitorRoom + (rest.map fun v => v.category).sum ≤ W) (hdg : decode c.code g.pc = .ok (.invokestatic index, 3)) (ha : argsL.toArray = as') (eT : T.heap = h) (hc : cells + rm.cells ≤ R.cells) (hs : slots + rm.slots ≤ R.slots) (h1 : cells + rm.cells = c') (h2 : slots + rm.slots = s') :
    ∃ (v : Option Value) (T' : State) (L : List Loc), Stand p l e R s m args below meth c T' (locs ++ L) c' s' ∧ Q v T'.heap L ∧ ∀ t, Steps p.tables e below (T'.setTop { g with pc := g.pc + 3, stack := v.toList ++ rest }) t → Steps p.tables e below (T.setTop g) t := by
  subst h1 h2
  obtain ⟨v, vm₁, ⟨T', L', k', n'⟩, -, X', ⟨L, hQ, h3, h4, h5⟩, st⟩ := Jvm.LawKit.callS X hx hown hlink hstat hinit hcode hy hK hg hsize hlen hstack hW hdg (fun _ _ => ⟨ha, eT, hc, hs⟩)
  dsimp only [Pt.U, Pt.locs, Pt.cells, Pt.slots] at X' h3 h4 h5 st hQ
  subst h3 h4 h5
  exact ⟨v, T', L, X', hQ, st⟩
theorem own_callI (X : Stand p l e R s m args below meth c T locs cells slots) (hx : p.tables.exec = Jvm.exec) {own : String} {index : Nat} {y : MethodName} {bytes : ByteArray} {maxL : Nat} (hy1 : y.name = "<init>") (hown : s.vm.findClass own = some m.cls) (hlink : (Cond.methodLink own index y).before args s = true) (hinst : (Cond.instanceMethod y).before args s = true) (hcode : (Cond.code y bytes maxL none).before args s = true) (hy : y.cls ≠ "java/lang/invoke/MethodHandle" ∧ y.cls ≠ "java/lang/invoke/VarHandle") (hK : Back l R p e below s args y 3 W (fun A a => a = as' ∧ A.U.heap = h ∧ A.cells + rm.cells ≤ R.cells ∧ A.slots + rm.slots ≤ R.slots) (fun A _ v B => ∃ L, Q v B.U.heap L ∧ B.locs = A.locs ++ L ∧ B.cells = A.cells + rm.cells ∧ B.slots = A.slots + rm.slots)) {g : JFrame} (hg : g.method = m) (hsize : g.locals.size = c.maxLocals) {a : Addr} {argsL rest : List Value} (hlen : ∀ sig, parseMethodDescriptor y.desc = some sig → argsL.length = sig.parameters.length) (hstack : g.stack = argsL.reverse ++ .ref a :: rest) (hW : 2 * g.monitorRoom + (rest.map fun v => v.category).sum ≤ W) (hdg : decode c.code g.pc = .ok (.invokespecial index, 3)) (ha : (.ref a :: argsL).toArray = as') (eT : T.heap = h) (hc : cells + rm.cells ≤ R.cells) (hs : slots + rm.slots ≤ R.slots) (h1 : cells + rm.cells = c') (h2 : slots + rm.slots = s') :
    ∃ (v : Option Value) (T' : State) (L : List Loc), Stand p l e R s m args below meth c T' (locs ++ L) c' s' ∧ Q v T'.heap L ∧ ∀ t, Steps p.tables e below (T'.setTop { g with pc := g.pc + 3, stack := v.toList ++ rest }) t → Steps p.tables e below (T.setTop g) t := by
  subst h1 h2
  obtain ⟨v, vm₁, ⟨T', L', k', n'⟩, -, X', ⟨L, hQ, h3, h4, h5⟩, st⟩ := X.specialBack hx hy1 hown hlink hinst hcode hy hK hg hsize (Steps.refl _) hlen hstack hW hdg (fun _ _ => ⟨ha, eT, hc, hs⟩)
  dsimp only [Pt.U, Pt.locs, Pt.cells, Pt.slots] at X' h3 h4 h5 st hQ
  subst h3 h4 h5
  exact ⟨v, T', L, X', hQ, fun t k => st.trans k⟩
theorem own_callP (X : Stand p l e R s m args below meth c T locs cells slots) (hx : p.tables.exec = Jvm.exec) {own : String} {index : Nat} {y : MethodName} {bytes : ByteArray} {maxL : Nat} {ret : Option FieldType} (hown : s.vm.findClass own = some m.cls) (hlink : (Cond.methodLink own index y).before args s = true) (hinst : (Cond.instanceMethod y).before args s = true) (hsel : (Cond.selects y.cls y y).before args s = true) (hpriv : s.PrivateAt y) (hcode : (Cond.code y bytes maxL ret).before args s = true) (hy : y.cls ≠ "java/lang/invoke/MethodHandle" ∧ y.cls ≠ "java/lang/invoke/VarHandle") (hK : Back l R p e below s args y 3 W (fun A a => a = as' ∧ A.U.heap = h ∧ A.cells + rm.cells ≤ R.cells ∧ A.slots + rm.slots ≤ R.slots) (fun A _ v B => ∃ L, Q v B.U.heap L ∧ B.locs = A.locs ++ L ∧ B.cells = A.cells + rm.cells ∧ B.slots = A.slots + rm.slots)) {g : JFrame} (hg : g.method = m) (hsize : g.locals.size = c.maxLocals) {a : Addr} {cell : Cell} (hcell : T.heap[a]? = some cell) (hobj : ∀ q, cell.vm ≠ .statics q) {argsL rest : List Value} (hlen : ∀ sig, parseMethodDescriptor y.desc = some sig → argsL.length = sig.parameters.length) (hstack : g.stack = argsL.reverse ++ .ref a :: rest) (hW : 2 * g.monitorRoom + (rest.map fun v => v.category).sum ≤ W) (hdg : decode c.code g.pc = .ok (.invokevirtual index, 3)) (ha : (.ref a :: argsL).toArray = as') (eT : T.heap = h) (hc : cells + rm.cells ≤ R.cells) (hs : slots + rm.slots ≤ R.slots) (h1 : cells + rm.cells = c') (h2 : slots + rm.slots = s') :
    ∃ (v : Option Value) (T' : State) (L : List Loc), Stand p l e R s m args below meth c T' (locs ++ L) c' s' ∧ Q v T'.heap L ∧ ∀ t, Steps p.tables e below (T'.setTop { g with pc := g.pc + 3, stack := v.toList ++ rest }) t → Steps p.tables e below (T.setTop g) t := by
  subst h1 h2
  obtain ⟨v, vm₁, ⟨T', L', k', n'⟩, -, X', ⟨L, hQ, h3, h4, h5⟩, st⟩ := X.privateBack hx hown hlink hinst hsel hpriv hcode hy hK hg hsize (Steps.refl _) hcell hobj hlen hstack hW hdg (fun _ _ => ⟨ha, eT, hc, hs⟩)
  dsimp only [Pt.U, Pt.locs, Pt.cells, Pt.slots] at X' h3 h4 h5 st hQ
  subst h3 h4 h5
  exact ⟨v, T', L, X', hQ, fun t k => st.trans k⟩
theorem own_callV (X : Stand p l e R s m args below meth c T locs cells slots) (hx : p.tables.exec = Jvm.exec) {own : String} {index : Nat} {C : String} {y z : MethodName} (hown : s.vm.findClass own = some m.cls) (hlink : (Cond.methodLink own index y).before args s = true) (hdecl : (Cond.declares y).before args s = true) (hnf : NotFace s y) (hsel : (Cond.selects C y z).before args s = true) (hinst : (Cond.instanceMethod z).before args s = true) (hy : y.cls ≠ "java/lang/invoke/MethodHandle" ∧ y.cls ≠ "java/lang/invoke/VarHandle") (hK : Back l R p e below s args z 3 W (fun A a => a = as' ∧ A.U.heap = h ∧ A.cells + rm.cells ≤ R.cells ∧ A.slots + rm.slots ≤ R.slots) (fun A _ v B => ∃ L, Q v B.U.heap L ∧ B.locs = A.locs ++ L ∧ B.cells = A.cells + rm.cells ∧ B.slots = A.slots + rm.slots)) {b : Addr} {cB : ClassId} (hcB : s.vm.findClass C = some cB) (hrecv : IsOf cB T b) {g : JFrame} (hg : g.method = m) (hsize : g.locals.size = c.maxLocals) {argsL rest : List Value} (hlen : ∀ sig, parseMethodDescriptor y.desc = some sig → argsL.length = sig.parameters.length) (hstack : g.stack = argsL.reverse ++ .ref b :: rest) (hW : 2 * g.monitorRoom + (rest.map fun v => v.category).sum ≤ W) (hdg : decode c.code g.pc = .ok (.invokevirtual index, 3)) (ha : (.ref b :: argsL).toArray = as') (eT : T.heap = h) (hc : cells + rm.cells ≤ R.cells) (hs : slots + rm.slots ≤ R.slots) (h1 : cells + rm.cells = c') (h2 : slots + rm.slots = s') :
    ∃ (v : Option Value) (T' : State) (L : List Loc), Stand p l e R s m args below meth c T' (locs ++ L) c' s' ∧ Q v T'.heap L ∧ ∀ t, Steps p.tables e below (T'.setTop { g with pc := g.pc + 3, stack := v.toList ++ rest }) t → Steps p.tables e below (T.setTop g) t := by
  subst h1 h2
  obtain ⟨v, vm₁, ⟨T', L', k', n'⟩, -, X', ⟨L, hQ, h3, h4, h5⟩, st⟩ := X.virtualBack hx hown hlink hdecl hnf hsel hinst hy hK hcB hrecv hg hsize (Steps.refl _) hlen hstack hW hdg (fun _ _ => ⟨ha, eT, hc, hs⟩)
  dsimp only [Pt.U, Pt.locs, Pt.cells, Pt.slots] at X' h3 h4 h5 st hQ
  subst h3 h4 h5
  exact ⟨v, T', L, X', hQ, fun t k => st.trans k⟩
theorem own_callF (X : Stand p l e R s m args below meth c T locs cells slots) (hx : p.tables.exec = Jvm.exec) {own : String} {index count : Nat} {C : String} {xi y : MethodName} (hown : s.vm.findClass own = some m.cls) (hlink : (Cond.methodLink own index xi).before args s = true) (hdecl : (Cond.declares xi).before args s = true) (hface : (Cond.interfaceMethod xi.cls xi.cls xi.name xi.desc).before args s = true) (hsel : (Cond.selects C xi y).before args s = true) (hinst : (Cond.instanceMethod y).before args s = true) (hpub : (Cond.publicMethod y).before args s = true) (hunh : (Cond.unhidden C xi.name xi.desc).before args s = true) (hcast : (Cond.castable C xi.cls).before args s = true) (hy : xi.cls ≠ "java/lang/invoke/MethodHandle" ∧ xi.cls ≠ "java/lang/invoke/VarHandle") (hK : Back l R p e below s args y 5 W (fun A a => a = as' ∧ A.U.heap = h ∧ A.cells + rm.cells ≤ R.cells ∧ A.slots + rm.slots ≤ R.slots) (fun A _ v B => ∃ L, Q v B.U.heap L ∧ B.locs = A.locs ++ L ∧ B.cells = A.cells + rm.cells ∧ B.slots = A.slots + rm.slots)) {b : Addr} {cB : ClassId} {kB : Class} (hcB : s.vm.findClass C = some cB) (hkB : s.vm.classes[cB]? = some kB) (hrecv : IsOf cB T b) {g : JFrame} (hg : g.method = m) (hsize : g.locals.size = c.maxLocals) {argsL rest : List Value} (hlen : ∀ sig, parseMethodDescriptor xi.desc = some sig → argsL.length = sig.parameters.length) (hstack : g.stack = argsL.reverse ++ .ref b :: rest) (hW : 2 * g.monitorRoom + (rest.map fun v => v.category).sum ≤ W) (hdg : decode c.code g.pc = .ok (.invokeinterface index count, 5)) (ha : (.ref b :: argsL).toArray = as') (eT : T.heap = h) (hc : cells + rm.cells ≤ R.cells) (hs : slots + rm.slots ≤ R.slots) (h1 : cells + rm.cells = c') (h2 : slots + rm.slots = s') :
    ∃ (v : Option Value) (T' : State) (L : List Loc), Stand p l e R s m args below meth c T' (locs ++ L) c' s' ∧ Q v T'.heap L ∧ ∀ t, Steps p.tables e below (T'.setTop { g with pc := g.pc + 5, stack := v.toList ++ rest }) t → Steps p.tables e below (T.setTop g) t := by
  subst h1 h2
  obtain ⟨v, vm₁, ⟨T', L', k', n'⟩, -, X', ⟨L, hQ, h3, h4, h5⟩, st⟩ := X.interfaceBack hx hown hlink hdecl hface hsel hinst hpub hunh hcast hy hK hcB hkB hrecv hg hsize (Steps.refl _) hlen hstack hW hdg (fun _ _ => ⟨ha, eT, hc, hs⟩)
  dsimp only [Pt.U, Pt.locs, Pt.cells, Pt.slots] at X' h3 h4 h5 st hQ
  subst h3 h4 h5
  exact ⟨v, T', L, X', hQ, fun t k => st.trans k⟩
end OwnCalls
theorem own_z {Z : State} {n0 : Nat} {h : Heap} (O : Old Z n0 h) : n0 ≤ h.size := O.1 ▸ O.2.1
theorem own_ext {h h' : Heap} (K : Keep h h' []) : Ext h h' := ⟨K.1, fun x c q => K.2.1 x c q nin0⟩
theorem own_fld0 {args : Array Value} {Z : State} {t : Term} {a : Addr} {C n d : String} {k : Int32} (ev : t.eval args Z none [] Z = some (.ref a)) (h : (Jvm.Cond.eq (Term.field t C n d) (Term.int k)).value args Z none Z [] = some true) : Fld Z Z.heap a C n d (.int k) := by
  cases hv : Z.fieldOf? a C n d with
  | none => simp [Cond.value, Term.eval, ev, hv] at h
  | some x => cases x <;> simp [Cond.value, Term.eval, ev, hv] at h; subst h; exact Fld.start hv
theorem own_nz {args : Array Value} {Z : State} {t : Term} {cz : Int32} (ev : t.eval args Z none [] Z = some (.int cz)) (h : (Jvm.Cond.not (Jvm.Cond.eq t (Term.int (0 : Int32)))).value args Z none Z [] = some true) : ¬ cz = (0 : Int32) := by
  simpa [Cond.value, ev, Term.eval] using h
theorem own_rem (x y : Int32) (d : Int) (hd : 0 < d) (hy : y.toInt = d) : 0 ≤ ((x &&& 2147483647) % y).toInt ∧ ((x &&& 2147483647) % y).toInt < d := by
  have h1 := (c_andS x 2147483647).2.2 (by decide)
  have h2 := (c_irem (x &&& 2147483647) y d hy).1 h1
  rw [h2]; exact ⟨Int.emod_nonneg _ (by omega), Int.emod_lt_of_pos _ hd⟩
theorem own_nc (x : Int32) : nar .char ((x &&& 255).toUInt32.toUInt16.toUInt32.toInt32) = x &&& 255 := by
  show ((x &&& 255).toUInt32.toUInt16.toUInt32.toInt32).toUInt32.toUInt16.toUInt32.toInt32 = _
  rw [i2c_mask, i2c_mask]
theorem own_bb (b : Int32) : nar .byte (b.toInt8.toInt32) = b.toInt8.toInt32 := by
  show b.toInt8.toInt32.toInt8.toInt32 = _
  have h1 := c_i2b b
  have h2 := c_i2b b.toInt8.toInt32
  exact Int32.toInt_inj.mp (by omega)
theorem own_neA {Z : State} {h : Heap} {a b : Addr} {C : String} {k : Nat} {a0 : Array Value} {kb : ClassId} {ty : FieldType} {n : Int32} {vs : List Value} {dv : Value} (E : Exa Z h a C) (wi : (Jvm.Cond.instantiable C k).before a0 Z = true) (F : Arv Z h b kb ty n vs dv) : a ≠ b := by
  obtain ⟨c, A, -⟩ := F; exact ne_arr E wi A
theorem own_r255 (x : Int32) : ¬ (x &&& 255) < (0 : Int32) ∧ ¬ (255 : Int32) < (x &&& 255) := by
  have e := c_mask x 255 8 (by decide) (by decide)
  have z0 : (0 : Int32).toInt = 0 := rfl
  have z1 : (255 : Int32).toInt = 255 := rfl
  have z2 : ((2 ^ 8 : Nat) : Int) = 256 := rfl
  constructor <;> rw [Int32.lt_iff_toInt_lt] <;> omega
theorem own_eqI {x y : Int32} (h : x.toInt = y.toInt) : x = y := Int32.toInt_inj.mp h
/-- a contract in short: what a body leaves, its heap before and its arguments given -/
abbrev own_MF (l : Launch) (y : MethodName) (ws : List Jvm.Cond) (R : Room) (A : Array Value) (Z : State) (h0 : Heap) (Q : Option Value → Heap → List Loc → Prop) : Prop :=
  MetFree l y (head1 ws R) (fun ar_ U => ar_ = A ∧ Z.Warmed39 U.vm ∧ U.heap = h0) (fun _ _ _ _ _ => True) (fun _ U o U' => ∃ v L, o = .returned v ∧ Q v U'.heap L ∧ FrameEnd U o U' L R.cells R.slots)
theorem own_met {l : Launch} {y : MethodName} {ws : List Jvm.Cond} {R : Room} {A : Array Value} {Z : State} {h0 : Heap} {Q : Option Value → Heap → List Loc → Prop} {bytes : ByteArray} {maxL : Nat} {ret : Option FieldType} {own nme : String} (ho : y.cls = own) (hn : y.name = nme) (hpl : plainFor y = true)
    (K : ∀ (p : Program) (e : Env) (s : State) (m : MethodId) (below : List Frame) (meth : Method) (c : Code) (s₁ : State), p.tables.exec = Jvm.exec → c.code = bytes → c.maxLocals = maxL → s.vm.findClass own = some m.cls → meth.name = nme → Stand p l e R s m A below meth c s₁ [] 0 0 → s₁.heap = h0 → meth.sig.returnType = ret → meth.locks = false → Z.Warmed39 s.vm → own_E p e below s R.cells R.slots Q s₁ (entryFrame m A maxL)) :
    own_MF l y (Jvm.Cond.code y bytes maxL ret :: ws) R A Z h0 Q := by
  refine MetFree.of_bodySF hpl hisR ?_
  intro p e s m args below meth c s₁ Bd hml0 hP hK
  obtain ⟨rfl, hZ, hh⟩ := hP
  exact K p e s m below meth c s₁ Bd.exec Bd.bytes hml0 (ho ▸ findClass_of_methodNamed Bd.named) (hn ▸ (name_of_methodNamed Bd.named Bd.method).1) (Stand.of_body Bd) (by rw [← hh, Bd.state]; rfl) Bd.returns Bd.notSynchronized hZ
theorem own_sp {p : Program} {e : Env} {below : List Frame} {s : State} {k n : Nat} {P : Option Value → Heap → List Loc → Prop} {T T' : State} {m : MethodId} {pc q : Nat} {Ls : Array Slot} {S S' : List Value} (h : ∀ t, Steps p.tables e below (T'.setTop (mkF m q Ls S')) t → Steps p.tables e below (T.setTop (mkF m pc Ls S)) t) (E : own_E p e below s k n P T' (mkF m q Ls S')) : own_E p e below s k n P T (mkF m pc Ls S) := own_st h E
theorem wd {Z : State} {a0 : Array Value} (hw : ∀ d ∈ tables_1, d.before a0 Z = true) (i : Nat) {d : Jvm.Cond} (h : tables_1[i]? = some d) : d.before a0 Z = true := hw d (List.mem_of_getElem? h)
/-- own_E where String constants may be made; of the tables at the end P may speak -/
def own_V (p : Program) (e : Env) (below : List Frame) (s : State) (k n : Nat) (P : Option Value → Heap → List Loc → Vm → Prop) (T : State) (g : JFrame) : Prop :=
  ∃ s₂ o, Steps p.tables e below (T.setTop g) s₂ ∧ s₂.status = .running ∧ Ended s₂ below o ∧ ∃ v L, o = .returned v ∧ P v s₂.heap L s₂.vm ∧ ReturnedEndW s o s₂ L k n
section OwnV
variable {p : Program} {l : Launch} {e : Env} {R : Room} {s : State} {m : MethodId} {args : Array Value} {below : List Frame} {meth : Method} {c : Code} {T T' : State} {locs : List Loc} {cells slots : Nat} {k n : Nat} {P : Option Value → Heap → List Loc → Vm → Prop} {g g' : JFrame} {Z : State} {vm0 : Vm} {k0 : Nat} {a0 : Array Value} {h : Heap}
theorem own_hZ (hZ : Z.Warmed39 s.vm) (hS : s.Since vm0 k0) : Z.Warmed39 (s.setVm vm0).vm := State.Warmed39.trans (t := s) hZ hS.1
theorem own_hown {own : String} {cc : ClassId} (h : s.vm.findClass own = some cc) (hS : s.Since vm0 k0) : (s.setVm vm0).vm.findClass own = some cc := by
  rw [show (s.setVm vm0).vm = vm0 from rfl, hS.1.alike.findClass]; exact h
theorem own_stV (h : ∀ t, Steps p.tables e below (T'.setTop g') t → Steps p.tables e below (T.setTop g) t) (E : own_V p e below s k n P T' g') : own_V p e below s k n P T g := by
  obtain ⟨s₂, o, h1, r⟩ := E; exact ⟨s₂, o, h _ h1, r⟩
theorem own_spV {pc q : Nat} {Ls : Array Slot} {S S' : List Value} (h : ∀ t, Steps p.tables e below (T'.setTop (mkF m q Ls S')) t → Steps p.tables e below (T.setTop (mkF m pc Ls S)) t) (E : own_V p e below s k n P T' (mkF m q Ls S')) : own_V p e below s k n P T (mkF m pc Ls S) := own_stV h E
theorem own_endV (X : Stand p l e R (s.setVm vm0) m args below meth c T locs cells slots) (hS : s.Since vm0 k0) (hk0 : k0 ≤ T.heap.size) {v : Option Value} (hv : meth.sig.returnType = none → v = none) (hlk : meth.locks = false) (hk : cells ≤ k) (hn : slots ≤ n) (hP : P v T.heap locs T.vm)
    (h : ∀ fs : List Frame, (∀ (f : JFrame) (acts : List Action), f.method = m → f.locked = none → f.entered = [] → (doReturn e (T.setTop f) acts v).1 = T.setFrames fs) → Steps p.tables e below (T.setTop g) (T.setFrames fs)) : own_V p e below s k n P T g := by
  obtain ⟨fs, hr, hrun, hended, r1, r2, r3, r4⟩ := X.leaveW hS hk0 (v := v) hv hlk
  exact ⟨_, _, h fs hr, hrun, hended, _, _, rfl, hP, r1, r2, r3, r4.mono hk hn⟩
theorem own_retVV (X : Stand p l e R (s.setVm vm0) m args below meth c T locs cells slots) (hS : s.Since vm0 k0) (hk0 : k0 ≤ T.heap.size) (hx : p.tables.exec = Jvm.exec) (hret : meth.sig.returnType = none) (hlk : meth.locks = false) {pc : Nat} {Ls : Array Slot} (hd : decode c.code pc = .ok (.return_, 1)) (hk : cells ≤ k) (hn : slots ≤ n) (hP : P none T.heap locs T.vm) : own_V p e below s k n P T (mkF m pc Ls []) :=
  own_endV X hS hk0 (fun _ => rfl) hlk hk hn hP fun _ hr => X.returnOut hx hret hd hr
theorem own_retNV (X : Stand p l e R (s.setVm vm0) m args below meth c T locs cells slots) (hS : s.Since vm0 k0) (hk0 : k0 ≤ T.heap.size) (hx : p.tables.exec = Jvm.exec) {t : FieldType} (hret : meth.sig.returnType = some t) (ht : t = .boolean ∨ t = .byte ∨ t = .char ∨ t = .short) (hlk : meth.locks = false) {pc : Nat} {Ls : Array Slot} {z : Int32} {rest : List Value} (hd : decode c.code pc = .ok (.ireturn, 1)) (hk : cells ≤ k) (hn : slots ≤ n) (hP : P (some (.int (nar t z))) T.heap locs T.vm) : own_V p e below s k n P T (mkF m pc Ls (.int z :: rest)) :=
  own_endV X hS hk0 (fun h => by rw [hret] at h; cases h) hlk hk hn hP fun _ hr => retN X hx hret ht hd hr
theorem own_retAV (X : Stand p l e R (s.setVm vm0) m args below meth c T locs cells slots) (hS : s.Since vm0 k0) (hk0 : k0 ≤ T.heap.size) (hx : p.tables.exec = Jvm.exec) {t : FieldType} (hret : meth.sig.returnType = some t) (ht : t.isReference = true) {w : Value} (hw : w.isRef = true) (hlk : meth.locks = false) {pc : Nat} {Ls : Array Slot} {rest : List Value} (hd : decode c.code pc = .ok (.areturn, 1)) (hk : cells ≤ k) (hn : slots ≤ n) (hP : P (some w) T.heap locs T.vm) : own_V p e below s k n P T (mkF m pc Ls (w :: rest)) :=
  own_endV X hS hk0 (fun h => by rw [hret] at h; cases h) hlk hk hn hP fun _ hr => retOut X hx hret (own_narR ht) (Or.inr (Or.inr (Or.inr (Or.inr ⟨rfl, ht, hw⟩)))) hd hr
theorem own_sa (hZ : Z.Warmed39 vm0) (wS : ∀ a ∈ Bundle.stringAtoms, a.before a0 Z = true) : ∀ a ∈ Bundle.stringAtoms, a.before args (s.setVm vm0) = true := fun d hd => by
  have q := wS d hd
  simp only [Bundle.stringAtoms, List.mem_cons, List.not_mem_nil, or_false] at hd
  rcases hd with rfl | rfl | rfl | rfl | rfl | rfl | rfl
  · exact mv (s := s.setVm vm0) hZ q
  · exact mv (s := s.setVm vm0) hZ q
  · exact mvA (s := s.setVm vm0) hZ q
  · exact mv (s := s.setVm vm0) hZ q
  · exact mv (s := s.setVm vm0) hZ q
  · exact mv (s := s.setVm vm0) hZ q
  · exact mv (s := s.setVm vm0) hZ q
theorem own_ldcV (X : Stand p l e R (s.setVm vm0) m args below meth c T locs cells slots) (hx : p.tables.exec = Jvm.exec) (hZ : Z.Warmed39 (s.setVm vm0).vm) {own text : String} {index : Nat} (hown : (s.setVm vm0).vm.findClass own = some m.cls) (w : (Jvm.Cond.stringLink own index text).before a0 Z = true) (wS : ∀ a ∈ Bundle.stringAtoms, a.before a0 Z = true)
    (eT : T.heap = h) (hS : s.Since vm0 k0) (hk : k0 ≤ h.size) {g : JFrame} (hg : g.method = m) (hd : decode c.code g.pc = .ok (.ldc index, 2)) {n : Nat} (hn : 4 * text.toList.length ≤ n) (hbig : n ≤ 536870912) (hc : cells + 2 ≤ R.cells) (hl : slots + (n + 4) ≤ R.slots) :
    ∃ (a : Addr) (T' : State) (h' : Heap), Stand p l e R (s.setVm T'.vm) m args below meth c T' locs (cells + 2) (slots + (n + 4)) ∧ T'.heap = h' ∧ Ext h h' ∧ s.Since T'.vm h'.size ∧ Z.Warmed39 (s.setVm T'.vm).vm ∧ (s.setVm T'.vm).vm.findClass own = some m.cls ∧ (Z.setVm vm0).Warmed39 T'.vm ∧ Lit (Z.setVm T'.vm) own index a ∧
      ∀ target, Steps p.tables e below (T'.setTop { g with pc := g.pc + 2, stack := .ref a :: g.stack }) target → Steps p.tables e below (T.setTop g) target := by
  obtain ⟨a, T', X', hS', ⟨kk, hkk, hrr⟩, hb, -, -, st⟩ := X.ldcColdN hx (own := own) hown (mvS hZ w) (own_sa hZ wS) hg hd hn hbig hc hl
  subst eT
  have E := ext_of hb
  have hf : T'.vm.findClass own = some m.cls := by rw [hS'.1.alike.findClass]; exact hown
  exact ⟨a, T', _, X', rfl, E, hS.trans hS' (Nat.le_trans hk E.1), State.Warmed39.trans (t := s.setVm vm0) hZ hS'.1, hf, hS'.1, by simp [Lit, State.resolvedAt?, hf, hkk, hrr], st⟩
theorem own_ldcA (X : Stand p l e R (s.setVm vm0) m args below meth c T locs cells slots) (hx : p.tables.exec = Jvm.exec) (hZ : Z.Warmed39 (s.setVm vm0).vm) {own text : String} {index : Nat} (hown : (s.setVm vm0).vm.findClass own = some m.cls) (w : (Jvm.Cond.stringLink own index text).before a0 Z = true) {a : Addr} (L : Lit (Z.setVm vm0) own index a)
    {g : JFrame} (hg : g.method = m) (hd : decode c.code g.pc = .ok (.ldc index, 2)) : ∀ target, Steps p.tables e below (T.setTop { g with pc := g.pc + 2, stack := .ref a :: g.stack }) target → Steps p.tables e below (T.setTop g) target :=
  ldcAgain X hx hZ hown w (show Lit (s.setVm vm0) own index a from L) hg hd
abbrev own_MV (l : Launch) (y : MethodName) (ws : List Jvm.Cond) (R : Room) (A : Array Value) (Z : State) (h0 : Heap) (Wp : Vm → Prop) (Q : Option Value → Heap → List Loc → Vm → Prop) : Prop :=
  MetFree l y (head1 ws R) (fun ar_ U => ar_ = A ∧ Z.Warmed39 U.vm ∧ U.heap = h0 ∧ Wp U.vm) (fun _ _ _ _ _ => True) (fun _ U o U' => ∃ v L, o = .returned v ∧ Q v U'.heap L U'.vm ∧ ReturnedEndW U o U' L R.cells R.slots)
theorem own_metV {y : MethodName} {ws : List Jvm.Cond} {A : Array Value} {h0 : Heap} {Wp : Vm → Prop} {Q : Option Value → Heap → List Loc → Vm → Prop} {bytes : ByteArray} {maxL : Nat} {ret : Option FieldType} {own nme : String} (ho : y.cls = own) (hn : y.name = nme) (hpl : plainFor y = true)
    (K : ∀ (p : Program) (e : Env) (s : State) (m : MethodId) (below : List Frame) (meth : Method) (c : Code) (s₁ : State), p.tables.exec = Jvm.exec → c.code = bytes → c.maxLocals = maxL → s.vm.findClass own = some m.cls → meth.name = nme → Stand p l e R (s.setVm s.vm) m A below meth c s₁ [] 0 0 → s₁.heap = h0 → meth.sig.returnType = ret → meth.locks = false → Z.Warmed39 s.vm → s.Since s.vm h0.size → Wp s.vm → own_V p e below s R.cells R.slots Q s₁ (entryFrame m A maxL)) :
    own_MV l y (Jvm.Cond.code y bytes maxL ret :: ws) R A Z h0 Wp Q := by
  refine MetFree.of_bodySF hpl hisR ?_
  intro p e s m args below meth c s₁ Bd hml0 hP hK
  obtain ⟨rfl, hZ, hh, hW⟩ := hP
  exact K p e s m below meth c s₁ Bd.exec Bd.bytes hml0 (ho ▸ findClass_of_methodNamed Bd.named) (hn ▸ (name_of_methodNamed Bd.named Bd.method).1) (Stand.of_body Bd) (by rw [← hh, Bd.state]; rfl) Bd.returns Bd.notSynchronized hZ ((State.WarmedH.refl s).since _) hW
theorem own_backV {y : MethodName} {bytes : ByteArray} {maxL : Nat} {ret : Option FieldType} {rm : Room} {len W : Nat} {as' : Array Value} {Q : Option Value → Heap → List Loc → Vm → Prop} {Wp : Vm → Prop}
    (hM : own_MV l y [Jvm.Cond.code y bytes maxL ret] rm as' Z h Wp Q) (hZ : Z.Warmed39 (s.setVm vm0).vm) (wc : (Jvm.Cond.code y bytes maxL ret).before a0 Z = true) (wz : (Jvm.Cond.initialized y.cls).before a0 Z = true) (hf : rm.frames + 1 ≤ R.frames) (hl : W + (maxL + 11) + rm.locals ≤ R.locals) (HW : ∀ vm1, (Z.setVm vm0).Warmed39 vm1 → Wp vm1) :
    BackS l R p e below (s.setVm vm0) args y len W (fun A a => a = as' ∧ A.U.heap = h ∧ A.cells + rm.cells ≤ R.cells ∧ A.slots + rm.slots ≤ R.slots)
      (fun A _ v B => ∃ L, Q v B.U.heap L B.U.vm ∧ B.locs = A.locs ++ L ∧ B.cells = A.cells + rm.cells ∧ B.slots = A.slots + rm.slots) := by
  refine BackS.of_freeW (bytes := bytes) (maxL := maxL) (ret := ret) (E := fun _ _ o t L k n => k = rm.cells ∧ n = rm.slots ∧ ∃ v, o = .returned v ∧ Q v t.heap L t.vm) hM hf hl ?_ ?_ (fun _ _ _ _ _ _ _ _ _ => trivial) ?_ ?_
  · intro m meth c A a Y hp
    have hU : Z.Warmed39 A.U.vm := wtrans (s := s.setVm vm0) hZ Y.warmed
    refine ⟨?_, mv hU wc, mv hU wz, hp.2.2.1, hp.2.2.2⟩
    show (Jvm.Cond.and _ .tt).before a A.U = true
    rw [Cond.before_and, mv hU wc]; rfl
  · intro m meth c A a g mk Y hp
    exact ⟨hp.1, wtrans (s := s.setVm vm0) hZ Y.warmed, hp.2.1, HW _ (show (s.setVm vm0).Warmed39 A.U.vm from Y.warmed.wide)⟩
  · rintro _ _ _ _ ⟨v, L, h1, h2, h4⟩
    exact ⟨L, _, _, h4, rfl, rfl, v, h1, h2⟩
  · rintro m meth c A a g mk v t L k n Y hp _ _ ⟨e1, e2, v', e3, e4⟩
    cases e3; subst e1 e2
    exact ⟨L, e4, rfl, rfl, rfl⟩
theorem own_callSV {W : Nat} {rm : Room} {as' : Array Value} {Q : Option Value → Heap → List Loc → Vm → Prop} {c' s' : Nat} (X : Stand p l e R (s.setVm vm0) m args below meth c T locs cells slots) (hx : p.tables.exec = Jvm.exec) {own : String} {index : Nat} {y : MethodName} {bytes : ByteArray} {maxL : Nat} {ret : Option FieldType} (hown : (s.setVm vm0).vm.findClass own = some m.cls) (hlink : (Jvm.Cond.methodLink own index y).before args (s.setVm vm0) = true) (hstat : (Jvm.Cond.static y).before args (s.setVm vm0) = true) (hinit : (Jvm.Cond.initialized y.cls).before args (s.setVm vm0) = true) (hcode : (Jvm.Cond.code y bytes maxL ret).before args (s.setVm vm0) = true) (hy : y.cls ≠ "java/lang/invoke/MethodHandle" ∧ y.cls ≠ "java/lang/invoke/VarHandle") (hK : BackS l R p e below (s.setVm vm0) args y 3 W (fun A a => a = as' ∧ A.U.heap = h ∧ A.cells + rm.cells ≤ R.cells ∧ A.slots + rm.slots ≤ R.slots) (fun A _ v B => ∃ L, Q v B.U.heap L B.U.vm ∧ B.locs = A.locs ++ L ∧ B.cells = A.cells + rm.cells ∧ B.slots = A.slots + rm.slots)) {g : JFrame} (hg : g.method = m) (hsize : g.locals.size = c.maxLocals) {argsL rest : List Value} (hlen : ∀ sig, parseMethodDescriptor y.desc = some sig → argsL.length = sig.parameters.length) (hstack : g.stack = argsL.reverse ++ rest) (hW : 2 * g.monitorRoom + (rest.map fun v => v.category).sum ≤ W) (hdg : decode c.code g.pc = .ok (.invokestatic index, 3)) (ha : argsL.toArray = as') (eT : T.heap = h) (hc : cells + rm.cells ≤ R.cells) (hs' : slots + rm.slots ≤ R.slots) (h1 : cells + rm.cells = c') (h2 : slots + rm.slots = s') (hS : s.Since vm0 k0) (hk : k0 ≤ h.size) :
    ∃ (v : Option Value) (T' : State) (L : List Loc), Stand p l e R (s.setVm T'.vm) m args below meth c T' (locs ++ L) c' s' ∧ s.Since T'.vm T'.heap.size ∧ (Z.setVm vm0).Warmed39 T'.vm ∧ Q v T'.heap L T'.vm ∧ ∀ t, Steps p.tables e below (T'.setTop { g with pc := g.pc + 3, stack := v.toList ++ rest }) t → Steps p.tables e below (T.setTop g) t := by
  subst h1 h2
  obtain ⟨v, vm₁, ⟨T', L', k', n'⟩, -, X', hS2, hgr, ⟨L, hQ, h3, h4, h5⟩, st⟩ := callSS X hx hown hlink hstat hinit hcode hy hK hg hsize hlen hstack hW hdg (fun _ _ => ⟨ha, eT, hc, hs'⟩)
  dsimp only [Pt.U, Pt.locs, Pt.cells, Pt.slots] at X' hS2 hgr h3 h4 h5 st hQ
  subst h3 h4 h5
  exact ⟨v, T', L, X', hS.trans hS2 (Nat.le_trans (eT ▸ hk) hgr), hS2.1, hQ, fun t k => st.trans k⟩
theorem own_callIV {W : Nat} {rm : Room} {as' : Array Value} {Q : Option Value → Heap → List Loc → Vm → Prop} {c' s' : Nat} (X : Stand p l e R (s.setVm vm0) m args below meth c T locs cells slots) (hx : p.tables.exec = Jvm.exec) {own : String} {index : Nat} {y : MethodName} {bytes : ByteArray} {maxL : Nat} (hy1 : y.name = "<init>") (hown : (s.setVm vm0).vm.findClass own = some m.cls) (hlink : (Jvm.Cond.methodLink own index y).before args (s.setVm vm0) = true) (hinst : (Jvm.Cond.instanceMethod y).before args (s.setVm vm0) = true) (hcode : (Jvm.Cond.code y bytes maxL none).before args (s.setVm vm0) = true) (hy : y.cls ≠ "java/lang/invoke/MethodHandle" ∧ y.cls ≠ "java/lang/invoke/VarHandle") (hK : BackS l R p e below (s.setVm vm0) args y 3 W (fun A a => a = as' ∧ A.U.heap = h ∧ A.cells + rm.cells ≤ R.cells ∧ A.slots + rm.slots ≤ R.slots) (fun A _ v B => ∃ L, Q v B.U.heap L B.U.vm ∧ B.locs = A.locs ++ L ∧ B.cells = A.cells + rm.cells ∧ B.slots = A.slots + rm.slots)) {g : JFrame} (hg : g.method = m) (hsize : g.locals.size = c.maxLocals) {a : Addr} {argsL rest : List Value} (hlen : ∀ sig, parseMethodDescriptor y.desc = some sig → argsL.length = sig.parameters.length) (hstack : g.stack = argsL.reverse ++ .ref a :: rest) (hW : 2 * g.monitorRoom + (rest.map fun v => v.category).sum ≤ W) (hdg : decode c.code g.pc = .ok (.invokespecial index, 3)) (ha : (.ref a :: argsL).toArray = as') (eT : T.heap = h) (hc : cells + rm.cells ≤ R.cells) (hs' : slots + rm.slots ≤ R.slots) (h1 : cells + rm.cells = c') (h2 : slots + rm.slots = s') (hS : s.Since vm0 k0) (hk : k0 ≤ h.size) :
    ∃ (v : Option Value) (T' : State) (L : List Loc), Stand p l e R (s.setVm T'.vm) m args below meth c T' (locs ++ L) c' s' ∧ s.Since T'.vm T'.heap.size ∧ (Z.setVm vm0).Warmed39 T'.vm ∧ Q v T'.heap L T'.vm ∧ ∀ t, Steps p.tables e below (T'.setTop { g with pc := g.pc + 3, stack := v.toList ++ rest }) t → Steps p.tables e below (T.setTop g) t := by
  subst h1 h2
  obtain ⟨v, vm₁, ⟨T', L', k', n'⟩, -, X', hS2, hgr, ⟨L, hQ, h3, h4, h5⟩, st⟩ := X.specialBackS hx hy1 hown hlink hinst hcode hy hK hg hsize (Steps.refl _) hlen hstack hW hdg (fun _ _ => ⟨ha, eT, hc, hs'⟩)
  dsimp only [Pt.U, Pt.locs, Pt.cells, Pt.slots] at X' hS2 hgr h3 h4 h5 st hQ
  subst h3 h4 h5
  exact ⟨v, T', L, X', hS.trans hS2 (Nat.le_trans (eT ▸ hk) hgr), hS2.1, hQ, fun t k => st.trans k⟩
theorem own_callVV {W : Nat} {rm : Room} {as' : Array Value} {Q : Option Value → Heap → List Loc → Vm → Prop} {c' s' : Nat} (X : Stand p l e R (s.setVm vm0) m args below meth c T locs cells slots) (hx : p.tables.exec = Jvm.exec) {own : String} {index : Nat} {C : String} {y z : MethodName} (hown : (s.setVm vm0).vm.findClass own = some m.cls) (hlink : (Jvm.Cond.methodLink own index y).before args (s.setVm vm0) = true) (hdecl : (Jvm.Cond.declares y).before args (s.setVm vm0) = true) (hnf : NotFace (s.setVm vm0) y) (hsel : (Jvm.Cond.selects C y z).before args (s.setVm vm0) = true) (hinst : (Jvm.Cond.instanceMethod z).before args (s.setVm vm0) = true) (hy : y.cls ≠ "java/lang/invoke/MethodHandle" ∧ y.cls ≠ "java/lang/invoke/VarHandle") (hK : BackS l R p e below (s.setVm vm0) args z 3 W (fun A a => a = as' ∧ A.U.heap = h ∧ A.cells + rm.cells ≤ R.cells ∧ A.slots + rm.slots ≤ R.slots) (fun A _ v B => ∃ L, Q v B.U.heap L B.U.vm ∧ B.locs = A.locs ++ L ∧ B.cells = A.cells + rm.cells ∧ B.slots = A.slots + rm.slots)) {b : Addr} {cB : ClassId} (hcB : (s.setVm vm0).vm.findClass C = some cB) (hrecv : IsOf cB T b) {g : JFrame} (hg : g.method = m) (hsize : g.locals.size = c.maxLocals) {argsL rest : List Value} (hlen : ∀ sig, parseMethodDescriptor y.desc = some sig → argsL.length = sig.parameters.length) (hstack : g.stack = argsL.reverse ++ .ref b :: rest) (hW : 2 * g.monitorRoom + (rest.map fun v => v.category).sum ≤ W) (hdg : decode c.code g.pc = .ok (.invokevirtual index, 3)) (ha : (.ref b :: argsL).toArray = as') (eT : T.heap = h) (hc : cells + rm.cells ≤ R.cells) (hs' : slots + rm.slots ≤ R.slots) (h1 : cells + rm.cells = c') (h2 : slots + rm.slots = s') (hS : s.Since vm0 k0) (hk : k0 ≤ h.size) :
    ∃ (v : Option Value) (T' : State) (L : List Loc), Stand p l e R (s.setVm T'.vm) m args below meth c T' (locs ++ L) c' s' ∧ s.Since T'.vm T'.heap.size ∧ (Z.setVm vm0).Warmed39 T'.vm ∧ Q v T'.heap L T'.vm ∧ ∀ t, Steps p.tables e below (T'.setTop { g with pc := g.pc + 3, stack := v.toList ++ rest }) t → Steps p.tables e below (T.setTop g) t := by
  subst h1 h2
  obtain ⟨v, vm₁, ⟨T', L', k', n'⟩, -, X', hS2, hgr, ⟨L, hQ, h3, h4, h5⟩, st⟩ := X.virtualBackS hx hown hlink hdecl hnf hsel hinst hy hK hcB hrecv hg hsize (Steps.refl _) hlen hstack hW hdg (fun _ _ => ⟨ha, eT, hc, hs'⟩)
  dsimp only [Pt.U, Pt.locs, Pt.cells, Pt.slots] at X' hS2 hgr h3 h4 h5 st hQ
  subst h3 h4 h5
  exact ⟨v, T', L, X', hS.trans hS2 (Nat.le_trans (eT ▸ hk) hgr), hS2.1, hQ, fun t k => st.trans k⟩
end OwnV
/-- a predicate on points that goes back along steps -/
def own_Ck (p : Program) (e : Env) (below : List Frame) (Φ : State → JFrame → Prop) : Prop := ∀ T T' g g', (∀ t, Steps p.tables e below (T'.setTop g') t → Steps p.tables e below (T.setTop g) t) → Φ T' g' → Φ T g
theorem own_ckE {p : Program} {e : Env} {below : List Frame} {s : State} {k n : Nat} {P : Option Value → Heap → List Loc → Prop} : own_Ck p e below (own_E p e below s k n P) := fun _ _ _ _ h E => own_st h E
theorem own_ckV {p : Program} {e : Env} {below : List Frame} {s : State} {k n : Nat} {P : Option Value → Heap → List Loc → Vm → Prop} : own_Ck p e below (own_V p e below s k n P) := fun _ _ _ _ h E => own_stV h E
section OwnK
variable {p : Program} {l : Launch} {e : Env} {R : Room} {s : State} {m : MethodId} {args : Array Value} {below : List Frame} {meth : Method} {c : Code} {T : State} {locs : List Loc} {cells slots : Nat} {Z : State} {a0 : Array Value} {h : Heap} {Φ : State → JFrame → Prop} {pc q ml : Nat} {Ls : Array Slot} {S : List Value} {own : String} {index : Nat}
theorem own_kget (C : own_Ck p e below Φ) (X : Stand p l e R s m args below meth c T locs cells slots) (hx : p.tables.exec = Jvm.exec) (hZ : Z.Warmed39 s.vm) {R0 O n d host : String} (hown : s.vm.findClass own = some m.cls) (w : (Jvm.Cond.fieldLink own index R0 n d).before a0 Z = true ∨ (Jvm.Cond.fieldLinkNest own index R0 n d host).before a0 Z = true) (via : Via Z R0 O n d) (eT : T.heap = h) {a : Addr} {v : Value} (F : Fld Z h a O n d v) (hd : decode c.code pc = .ok (.getfield index, 3)) (hq : pc + 3 = q) (K : ∀ T', Stand p l e R s m args below meth c T' locs cells slots → T'.heap = h → Φ T' (mkF m q Ls (v :: S))) : Φ T (mkF m pc Ls (.ref a :: S)) := by
  subst hq
  obtain ⟨T', X', e', st⟩ := getF X hx hZ hown w via eT F (g := mkF m pc Ls (.ref a :: S)) rfl rfl hd
  exact C _ _ _ _ st (K T' X' e')
theorem own_kgs (C : own_Ck p e below Φ) (X : Stand p l e R s m args below meth c T locs cells slots) (hx : p.tables.exec = Jvm.exec) (hZ : Z.Warmed39 s.vm) {R0 O n d host : String} (hown : s.vm.findClass own = some m.cls) (w : (Jvm.Cond.fieldLink own index R0 n d).before a0 Z = true ∨ (Jvm.Cond.fieldLinkNest own index R0 n d host).before a0 Z = true) (via : Via Z R0 O n d) (eT : T.heap = h) {v : Value} (F : Sta Z h O n d v) (hd : decode c.code pc = .ok (.getstatic index, 3)) (hq : pc + 3 = q) (K : ∀ T', Stand p l e R s m args below meth c T' locs cells slots → T'.heap = h → Φ T' (mkF m q Ls (v :: S))) : Φ T (mkF m pc Ls S) := by
  subst hq
  obtain ⟨T', X', e', st⟩ := getS2 X hx hZ hown w via eT F (g := mkF m pc Ls S) rfl hd
  exact C _ _ _ _ st (K T' X' e')
theorem own_kput (C' : own_Ck p e below Φ) (X : Stand p l e R s m args below meth c T locs cells slots) (hx : p.tables.exec = Jvm.exec) (hZ : Z.Warmed39 s.vm) {R0 O n d host C : String} {kk : Nat} {ty : FieldType} (hown : s.vm.findClass own = some m.cls) (w : (Jvm.Cond.fieldLink own index R0 n d).before a0 Z = true ∨ (Jvm.Cond.fieldLinkNest own index R0 n d host).before a0 Z = true) (via : Via Z R0 O n d) (eT : T.heap = h) {a : Addr} {v old : Value} (F : Fld Z h a O n d old) (E : Exa Z h a C) (L : (Jvm.Cond.lays C O n d).before a0 Z = true ∨ ((Jvm.Cond.laysFinal C O n d).before a0 Z = true ∧ own = O ∧ meth.name = "<init>")) (wi : (Jvm.Cond.instantiable C kk).before a0 Z = true)
    (hty : parseFieldDescriptor d = some ty) (hn : narrow ty v = v) (hf : fits ty v = true) (hd : decode c.code pc = .ok (.putfield index, 3)) (hq : pc + 3 = q) (K : ∀ T' h', Stand p l e R s m args below meth c T' (locs ++ [⟨a, Jvm.RoadKit.slotOf Z O n d⟩]) cells slots → T'.heap = h' → Wr h h' a (Jvm.RoadKit.slotOf Z O n d) v → Φ T' (mkF m q Ls S)) : Φ T (mkF m pc Ls (v :: .ref a :: S)) := by
  subst hq
  obtain ⟨T', h', X', e', W', st⟩ := putF X hx hZ hown w via eT F E L wi hty hn hf (g := mkF m pc Ls (v :: .ref a :: S)) rfl rfl hd
  exact C' _ _ _ _ st (K T' h' X' e' W')
section Calls
variable {y z : MethodName} {bytes : ByteArray} {maxL : Nat} {ret : Option FieldType} {rm : Room} {as' : Array Value} {Q : Option Value → Heap → List Loc → Prop} {W c' s' : Nat} {argsL rest : List Value}
theorem own_kcS (C : own_Ck p e below Φ) (X : Stand p l e R s m args below meth c T locs cells slots) (hx : p.tables.exec = Jvm.exec) (hZ : Z.Warmed39 s.vm) (hown : s.vm.findClass own = some m.cls) (hml : c.maxLocals = ml) (w1 : (Jvm.Cond.methodLink own index y).before a0 Z = true) (w2 : (Jvm.Cond.static y).before a0 Z = true) (w3 : (Jvm.Cond.initialized y.cls).before a0 Z = true) (w4 : (Jvm.Cond.code y bytes maxL ret).before a0 Z = true) (hy : y.cls ≠ "java/lang/invoke/MethodHandle" ∧ y.cls ≠ "java/lang/invoke/VarHandle") (hM : own_MF l y [Jvm.Cond.code y bytes maxL ret] rm as' Z h Q) (hf : rm.frames + 1 ≤ R.frames) (hl : W + (maxL + 11) + rm.locals ≤ R.locals) (hW : (rest.map fun v => v.category).sum ≤ W)
    (hlen : ∀ sig, parseMethodDescriptor y.desc = some sig → argsL.length = sig.parameters.length) (hsz : Ls.size = ml) (hS : S = argsL.reverse ++ rest) (hd : decode c.code pc = .ok (.invokestatic index, 3)) (ha : argsL.toArray = as') (eT : T.heap = h) (hc : cells + rm.cells ≤ R.cells) (hs : slots + rm.slots ≤ R.slots) (h1 : cells + rm.cells = c') (h2 : slots + rm.slots = s') (hq : pc + 3 = q) (K : ∀ v T' L, Stand p l e R s m args below meth c T' (locs ++ L) c' s' → Q v T'.heap L → Φ T' (mkF m q Ls (v.toList ++ rest))) : Φ T (mkF m pc Ls S) := by
  subst hq
  obtain ⟨v, T', L, X', hQ, st⟩ := own_callS X hx hown (mvT hZ w1) (mvT hZ w2) (mvT hZ w3) (mvT hZ w4) hy (backOf (W := W) hM hZ w4 w3 hf hl) (g := mkF m pc Ls S) rfl (by rw [hml]; exact hsz) hlen hS (by show 2 * 0 + _ ≤ _; omega) hd ha eT hc hs h1 h2
  exact C _ _ _ _ st (K v T' L X' hQ)
theorem own_kcI (C : own_Ck p e below Φ) (X : Stand p l e R s m args below meth c T locs cells slots) (hx : p.tables.exec = Jvm.exec) (hZ : Z.Warmed39 s.vm) (hown : s.vm.findClass own = some m.cls) (hml : c.maxLocals = ml) (hy1 : y.name = "<init>") (w1 : (Jvm.Cond.methodLink own index y).before a0 Z = true) (w2 : (Jvm.Cond.instanceMethod y).before a0 Z = true) (w3 : (Jvm.Cond.initialized y.cls).before a0 Z = true) (w4 : (Jvm.Cond.code y bytes maxL none).before a0 Z = true) (hy : y.cls ≠ "java/lang/invoke/MethodHandle" ∧ y.cls ≠ "java/lang/invoke/VarHandle") {a : Addr} (hM : own_MF l y [Jvm.Cond.code y bytes maxL none] rm as' Z h Q) (hf : rm.frames + 1 ≤ R.frames) (hl : W + (maxL + 11) + rm.locals ≤ R.locals) (hW : (rest.map fun v => v.category).sum ≤ W)
    (hlen : ∀ sig, parseMethodDescriptor y.desc = some sig → argsL.length = sig.parameters.length) (hsz : Ls.size = ml) (hS : S = argsL.reverse ++ .ref a :: rest) (hd : decode c.code pc = .ok (.invokespecial index, 3)) (ha : (.ref a :: argsL).toArray = as') (eT : T.heap = h) (hc : cells + rm.cells ≤ R.cells) (hs : slots + rm.slots ≤ R.slots) (h1 : cells + rm.cells = c') (h2 : slots + rm.slots = s') (hq : pc + 3 = q) (K : ∀ v T' L, Stand p l e R s m args below meth c T' (locs ++ L) c' s' → Q v T'.heap L → Φ T' (mkF m q Ls (v.toList ++ rest))) : Φ T (mkF m pc Ls S) := by
  subst hq
  obtain ⟨v, T', L, X', hQ, st⟩ := own_callI X hx hy1 hown (mvT hZ w1) (mvT hZ w2) (mvT hZ w4) hy (backOf (W := W) hM hZ w4 w3 hf hl) (g := mkF m pc Ls S) rfl (by rw [hml]; exact hsz) (a := a) hlen hS (by show 2 * 0 + _ ≤ _; omega) hd ha eT hc hs h1 h2
  exact C _ _ _ _ st (K v T' L X' hQ)
theorem own_kcP (C : own_Ck p e below Φ) (X : Stand p l e R s m args below meth c T locs cells slots) (hx : p.tables.exec = Jvm.exec) (hZ : Z.Warmed39 s.vm) (hown : s.vm.findClass own = some m.cls) (hml : c.maxLocals = ml) (w1 : (Jvm.Cond.methodLink own index y).before a0 Z = true) (w2 : (Jvm.Cond.instanceMethod y).before a0 Z = true) (w5 : (Jvm.Cond.selects y.cls y y).before a0 Z = true) (w6 : (Jvm.Cond.privateMethod y).before a0 Z = true) (w3 : (Jvm.Cond.initialized y.cls).before a0 Z = true) (w4 : (Jvm.Cond.code y bytes maxL ret).before a0 Z = true) (hy : y.cls ≠ "java/lang/invoke/MethodHandle" ∧ y.cls ≠ "java/lang/invoke/VarHandle") {a : Addr} {CC : String} (E : Exa Z h a CC) (hM : own_MF l y [Jvm.Cond.code y bytes maxL ret] rm as' Z h Q) (hf : rm.frames + 1 ≤ R.frames) (hl : W + (maxL + 11) + rm.locals ≤ R.locals) (hW : (rest.map fun v => v.category).sum ≤ W)
    (hlen : ∀ sig, parseMethodDescriptor y.desc = some sig → argsL.length = sig.parameters.length) (hsz : Ls.size = ml) (hS : S = argsL.reverse ++ .ref a :: rest) (hd : decode c.code pc = .ok (.invokevirtual index, 3)) (ha : (.ref a :: argsL).toArray = as') (eT : T.heap = h) (hc : cells + rm.cells ≤ R.cells) (hs : slots + rm.slots ≤ R.slots) (h1 : cells + rm.cells = c') (h2 : slots + rm.slots = s') (hq : pc + 3 = q) (K : ∀ v T' L, Stand p l e R s m args below meth c T' (locs ++ L) c' s' → Q v T'.heap L → Φ T' (mkF m q Ls (v.toList ++ rest))) : Φ T (mkF m pc Ls S) := by
  subst hq
  obtain ⟨cq, q1, q2⟩ := E.cell
  obtain ⟨v, T', L, X', hQ, st⟩ := own_callP X hx hown (mvT hZ w1) (mvT hZ w2) (mvT hZ w5) (Cond.privateMethod_at (mvP hZ w6 (args := #[]))) (mvT hZ w4) hy (backOf (W := W) hM hZ w4 w3 hf hl) (g := mkF m pc Ls S) rfl (by rw [hml]; exact hsz) (a := a) (by rw [eT]; exact q1) q2 hlen hS (by show 2 * 0 + _ ≤ _; omega) hd ha eT hc hs h1 h2
  exact C _ _ _ _ st (K v T' L X' hQ)
theorem own_kcV (C : own_Ck p e below Φ) (X : Stand p l e R s m args below meth c T locs cells slots) (hx : p.tables.exec = Jvm.exec) (hZ : Z.Warmed39 s.vm) (hown : s.vm.findClass own = some m.cls) (hml : c.maxLocals = ml) {CC : String} (w1 : (Jvm.Cond.methodLink own index y).before a0 Z = true) (w2 : (Jvm.Cond.declares y).before a0 Z = true) (w5 : (Jvm.Cond.selects CC y y).before a0 Z = true) (w6 : (Jvm.Cond.instanceMethod y).before a0 Z = true) (w3 : (Jvm.Cond.initialized y.cls).before a0 Z = true) (w4 : (Jvm.Cond.code y bytes maxL ret).before a0 Z = true) (hy : y.cls ≠ "java/lang/invoke/MethodHandle" ∧ y.cls ≠ "java/lang/invoke/VarHandle") {a : Addr} (E : Exa Z h a CC) (hM : own_MF l y [Jvm.Cond.code y bytes maxL ret] rm as' Z h Q) (hf : rm.frames + 1 ≤ R.frames) (hl : W + (maxL + 11) + rm.locals ≤ R.locals) (hW : (rest.map fun v => v.category).sum ≤ W)
    (hlen : ∀ sig, parseMethodDescriptor y.desc = some sig → argsL.length = sig.parameters.length) (hsz : Ls.size = ml) (hS : S = argsL.reverse ++ .ref a :: rest) (hd : decode c.code pc = .ok (.invokevirtual index, 3)) (ha : (.ref a :: argsL).toArray = as') (eT : T.heap = h) (hc : cells + rm.cells ≤ R.cells) (hs : slots + rm.slots ≤ R.slots) (h1 : cells + rm.cells = c') (h2 : slots + rm.slots = s') (hq : pc + 3 = q) (K : ∀ v T' L, Stand p l e R s m args below meth c T' (locs ++ L) c' s' → Q v T'.heap L → Φ T' (mkF m q Ls (v.toList ++ rest))) : Φ T (mkF m pc Ls S) := by
  subst hq
  obtain ⟨cB, kB, i1, -, i3⟩ := isOf hZ eT E
  obtain ⟨v, T', L, X', hQ, st⟩ := own_callV X hx hown (mvT hZ w1) (mvT hZ w2) (notFace_of_selects (args := #[]) (mvT hZ w5)) (mvT hZ w5) (mvT hZ w6) hy (backOf (W := W) hM hZ w4 w3 hf hl) i1 i3 (g := mkF m pc Ls S) rfl (by rw [hml]; exact hsz) hlen hS (by show 2 * 0 + _ ≤ _; omega) hd ha eT hc hs h1 h2
  exact C _ _ _ _ st (K v T' L X' hQ)
theorem own_kcF (C : own_Ck p e below Φ) (X : Stand p l e R s m args below meth c T locs cells slots) (hx : p.tables.exec = Jvm.exec) (hZ : Z.Warmed39 s.vm) (hown : s.vm.findClass own = some m.cls) (hml : c.maxLocals = ml) {CC : String} {count : Nat} (w1 : (Jvm.Cond.methodLink own index z).before a0 Z = true) (w2 : (Jvm.Cond.declares z).before a0 Z = true) (w7 : (Jvm.Cond.interfaceMethod z.cls z.cls z.name z.desc).before args s = true) (w5 : (Jvm.Cond.selects CC z y).before a0 Z = true) (w6 : (Jvm.Cond.instanceMethod y).before a0 Z = true) (w8 : (Jvm.Cond.publicMethod y).before a0 Z = true) (w9 : (Jvm.Cond.unhidden CC z.name z.desc).before a0 Z = true) (w10 : (Jvm.Cond.castable CC z.cls).before a0 Z = true) (w3 : (Jvm.Cond.initialized y.cls).before a0 Z = true) (w4 : (Jvm.Cond.code y bytes maxL ret).before a0 Z = true) (hy : z.cls ≠ "java/lang/invoke/MethodHandle" ∧ z.cls ≠ "java/lang/invoke/VarHandle") {a : Addr} (E : Exa Z h a CC) (hM : own_MF l y [Jvm.Cond.code y bytes maxL ret] rm as' Z h Q) (hf : rm.frames + 1 ≤ R.frames) (hl : W + (maxL + 11) + rm.locals ≤ R.locals) (hW : (rest.map fun v => v.category).sum ≤ W)
    (hlen : ∀ sig, parseMethodDescriptor z.desc = some sig → argsL.length = sig.parameters.length) (hsz : Ls.size = ml) (hS : S = argsL.reverse ++ .ref a :: rest) (hd : decode c.code pc = .ok (.invokeinterface index count, 5)) (ha : (.ref a :: argsL).toArray = as') (eT : T.heap = h) (hc : cells + rm.cells ≤ R.cells) (hs : slots + rm.slots ≤ R.slots) (h1 : cells + rm.cells = c') (h2 : slots + rm.slots = s') (hq : pc + 5 = q) (K : ∀ v T' L, Stand p l e R s m args below meth c T' (locs ++ L) c' s' → Q v T'.heap L → Φ T' (mkF m q Ls (v.toList ++ rest))) : Φ T (mkF m pc Ls S) := by
  subst hq
  obtain ⟨cB, kB, i1, i2, i3⟩ := isOf hZ eT E
  obtain ⟨v, T', L, X', hQ, st⟩ := own_callF X hx hown (mvT hZ w1) (mvT hZ w2) w7 (mvT hZ w5) (mvT hZ w6) (mvT hZ w8) (mvT hZ w9) (mvT hZ w10) hy (backOf (W := W) hM hZ w4 w3 hf hl) i1 i2 i3 (g := mkF m pc Ls S) rfl (by rw [hml]; exact hsz) hlen hS (by show 2 * 0 + _ ≤ _; omega) hd ha eT hc hs h1 h2
  exact C _ _ _ _ st (K v T' L X' hQ)
end Calls
end OwnK
section OwnMir
variable {p : Program} {l : Launch} {e : Env} {R : Room} {s : State} {m : MethodId} {args : Array Value} {below : List Frame} {meth : Method} {c : Code} {T : State} {locs : List Loc} {cells slots : Nat} {Z : State} {a0 : Array Value} {h : Heap}
theorem own_NSroot {O K : String} {n : Nat} (w : (Jvm.Cond.noSuperclass O).before a0 Z = true) (wk : (Jvm.Cond.instantiable K n).before a0 Z = true) (hn : O ≠ K) : NS Z O K := by
  obtain ⟨c, k, h1, h2, h3, -, -⟩ := Cond.noSuperclass_spec w
  obtain ⟨t, kt, g1, -⟩ := Cond.instantiable_spec wk
  have ne := ids_ne h1 g1 hn
  refine ⟨c, t, h1, g1, fun fuel => ?_⟩
  cases fuel with
  | zero => rfl
  | succ f => simp [Vm.isSubclassAux, ne, h2, h3]
theorem own_NSno {C S K : String} {n : Nat} (w : (Jvm.Cond.superclass C S).before a0 Z = true) (wk : (Jvm.Cond.instantiable K n).before a0 Z = true) (N : NS Z C K) (hn : C ≠ K) : ∃ c t, Z.vm.findClass C = some c ∧ Z.vm.findClass K = some t ∧ Z.vm.assignable c t = false := by
  obtain ⟨c, t, h0, g0, n3⟩ := N
  obtain ⟨p, k, kp, h1, h2, h3, h4, h5, -, h7⟩ := Cond.superclass_spec h0 w
  obtain ⟨t', k', g1, g2, g5, g7, -⟩ := Cond.instantiable_spec wk
  cases g0.symm.trans g1
  have g8 : k'.isInterface = false := by cases q : k'.isInterface <;> simp [q] at g7 ⊢
  have ne := ids_ne h0 g0 hn
  refine ⟨c, t, h0, g0, ?_⟩
  show Z.vm.assignableAux (255 + 1) c t = false
  simp [Vm.assignableAux, ne, h2, g2, h5, g5, g8, Vm.isSubclass, n3]
/-- the Class object of the class C has been made, at mr -/
def own_Mir (Z : State) (C : String) (mr : Addr) : Prop := ∃ (c : ClassId) (k : Class), Z.vm.findClass C = some c ∧ Z.vm.classes[c]? = some k ∧ k.mirror = some mr
theorem own_ldk (X : Stand p l e R s m args below meth c T locs cells slots) (hx : p.tables.exec = Jvm.exec) (hZ : Z.Warmed39 s.vm) {own C : String} {index : Nat} (hown : s.vm.findClass own = some m.cls) (w : (Jvm.Cond.classLink own index C).before a0 Z = true) (eT : T.heap = h) {mr : Addr} (M : own_Mir Z C mr)
    {g : JFrame} (hg : g.method = m) (hd : decode c.code g.pc = .ok (.ldc index, 2)) : ∃ T', Stand p l e R s m args below meth c T' locs cells slots ∧ T'.heap = h ∧ ∀ target, Steps p.tables e below (T'.setTop { g with pc := g.pc + 2, stack := .ref mr :: g.stack }) target → Steps p.tables e below (T.setTop g) target := by
  obtain ⟨cc, kc, m1, m2, m3⟩ := M
  obtain ⟨k', q, ek⟩ := hZ.alike.2.2 _ _ m2
  have f1 : s.vm.findClass C = some cc := by rw [hZ.alike.findClass]; exact m1
  have hev : (Term.mirror C).eval args s none [] s = some (.ref mr) := by
    have e3 : k'.mirror = some mr := by rw [ek]; exact m3
    simp [Term.eval, f1, q, e3]
  obtain ⟨vm', X', st⟩ := X.ldcMirror hx hown (mvT hZ w) hev hg hd
  exact ⟨_, X', eT, st⟩
abbrev own_gc : MethodName := ⟨"java/lang/Object", "getClass", "()Ljava/lang/Class;"⟩
theorem own_gcls (X : Stand p l e R s m args below meth c T locs cells slots) (hx : p.tables.exec = Jvm.exec) (hZ : Z.Warmed39 s.vm) {own C : String} {index : Nat} {a : Addr} (hown : s.vm.findClass own = some m.cls)
    (w1 : (Jvm.Cond.methodLink own index own_gc).before a0 Z = true) (w2 : (Jvm.Cond.declares own_gc).before a0 Z = true) (w3 : (Jvm.Cond.noSuperclass "java/lang/Object").before a0 Z = true) (w4 : (Jvm.Cond.selects C own_gc own_gc).before a0 Z = true)
    (w5 : (Jvm.Cond.instanceMethod own_gc).before a0 Z = true) (w6 : (Jvm.Cond.native own_gc).before a0 Z = true) (eT : T.heap = h) (E : Exa Z h a C) {mr : Addr} (M : own_Mir Z C mr)
    {g : JFrame} (hg : g.method = m) (hsize : g.locals.size = c.maxLocals) {rest : List Value} (hs : g.stack = .ref a :: rest) (hd : decode c.code g.pc = .ok (.invokevirtual index, 3)) (hf : 1 ≤ R.frames) {W : Nat} (hW : 2 * g.monitorRoom + (rest.map fun v => v.category).sum ≤ W) (hl : W + (nativeFrameWords "java/lang/Object" "getClass" 1 + 11) ≤ R.locals) :
    ∃ T', Stand p l e R s m args below meth c T' locs cells slots ∧ T'.heap = h ∧ ∀ target, Steps p.tables e below (T'.setTop { g with pc := g.pc + 3, stack := .ref mr :: rest }) target → Steps p.tables e below (T.setTop g) target := by
  obtain ⟨cB, kB, i1, i2, i3⟩ := isOf hZ eT E
  obtain ⟨cc, kc, m1, m2, m3⟩ := M
  have i1' := i1
  rw [hZ.alike.findClass] at i1'
  cases i1'.symm.trans m1
  obtain ⟨k', q, ek⟩ := hZ.alike.2.2 _ _ m2
  have nf : NotFace s own_gc := nf_top (args := args) (mvT hZ w3)
  obtain ⟨vm', X', st⟩ := X.getClassOf hx hown (mvT hZ w1) (mvT hZ w2) nf (mvT hZ w4) (mvT hZ w5) (mvT hZ w6) i1 i3 q (by rw [ek]; exact m3) hg hsize hs hd hf (by omega)
  exact ⟨_, X', eT, st⟩
theorem own_exaArv {a : Addr} {k : ClassId} {ty : FieldType} {z : Int32} {vs : List Value} {dv : Value} {C : String} (F : Arv Z h a k ty z vs dv) (hC : Z.vm.findClass C = some k) : Exa Z h a C := by
  obtain ⟨cl, A, q, -⟩ := F
  have hp := A.plain
  obtain ⟨h1, ⟨-, kk, h2, comp, h3⟩, -⟩ := A
  exact ⟨cl, kk, h1, by rw [q]; exact hC, h2, hp, fun z => by rw [h3] at z; cases z⟩
theorem own_insK {h' : Heap} {ws : List Addr} {a : Addr} {C : String} (F : Ins Z h a C true) (K : Keep h h' ws) : Ins Z h' a C true := by
  obtain ⟨cell, t, h1, h2, h3⟩ := F
  obtain ⟨c', q1, q2, q3, -⟩ := K.2.2 _ _ h1
  exact ⟨c', t, q1, h2, by rw [q2, q3]; exact h3⟩
theorem own_kk {a : Addr} {k kO : ClassId} {ty : FieldType} {n : Int32} {C : String} (E : Exa Z h a C) (A : Arr Z h a (newA k ty n) ty) (FC : Z.vm.findClass C = some kO) : kO = k := by
  obtain ⟨cell, k', h1, h2, -⟩ := E
  cases h1.symm.trans A.1
  exact Option.some.inj (FC.symm.trans h2)
theorem own_OV (w : (Jvm.Cond.arrayOver (.object "java/lang/Object")).before a0 Z = true) : ∃ kO, Ovr Z kO "java/lang/Object" ∧ Z.vm.findClass "[Ljava/lang/Object;" = some kO := by
  obtain ⟨comp, c, k, h1, -, h3, h4, h5⟩ := Cond.arrayOver_spec (show (Jvm.Cond.arrayOver (.object "java/lang/Object")).holds a0 Z none Z [] = true from w)
  exact ⟨c, ⟨k, comp, h3, h4, h1⟩, h5⟩
theorem own_callIN {W : Nat} {rm : Room} {as' : Array Value} {Q : Option Value → Heap → List Loc → Prop} {c' s' : Nat} (X : Stand p l e R s m args below meth c T locs cells slots) (hx : p.tables.exec = Jvm.exec) {own host : String} {index : Nat} {y : MethodName} {bytes : ByteArray} {maxL : Nat} (hy1 : y.name = "<init>") (hown : s.vm.findClass own = some m.cls) (hlink : (Jvm.Cond.methodLinkNest own index y host).before args s = true) (hinst : (Jvm.Cond.instanceMethod y).before args s = true) (hcode : (Jvm.Cond.code y bytes maxL none).before args s = true) (hy : y.cls ≠ "java/lang/invoke/MethodHandle" ∧ y.cls ≠ "java/lang/invoke/VarHandle") (hK : Back l R p e below s args y 3 W (fun A a => a = as' ∧ A.U.heap = h ∧ A.cells + rm.cells ≤ R.cells ∧ A.slots + rm.slots ≤ R.slots) (fun A _ v B => ∃ L, Q v B.U.heap L ∧ B.locs = A.locs ++ L ∧ B.cells = A.cells + rm.cells ∧ B.slots = A.slots + rm.slots)) {g : JFrame} (hg : g.method = m) (hsize : g.locals.size = c.maxLocals) {a : Addr} {argsL rest : List Value} (hlen : ∀ sig, parseMethodDescriptor y.desc = some sig → argsL.length = sig.parameters.length) (hstack : g.stack = argsL.reverse ++ .ref a :: rest) (hW : 2 * g.monitorRoom + (rest.map fun v => v.category).sum ≤ W) (hdg : decode c.code g.pc = .ok (.invokespecial index, 3)) (ha : (.ref a :: argsL).toArray = as') (eT : T.heap = h) (hc : cells + rm.cells ≤ R.cells) (hs : slots + rm.slots ≤ R.slots) (h1 : cells + rm.cells = c') (h2 : slots + rm.slots = s') :
    ∃ (v : Option Value) (T' : State) (L : List Loc), Stand p l e R s m args below meth c T' (locs ++ L) c' s' ∧ Q v T'.heap L ∧ ∀ t, Steps p.tables e below (T'.setTop { g with pc := g.pc + 3, stack := v.toList ++ rest }) t → Steps p.tables e below (T.setTop g) t := by
  subst h1 h2
  obtain ⟨v, vm₁, ⟨T', L', k', n'⟩, -, X', ⟨L, hQ, h3, h4, h5⟩, st⟩ := X.specialBackNest hx hy1 hown hlink hinst hcode hy hK hg hsize (Steps.refl _) hlen hstack hW hdg (fun _ _ => ⟨ha, eT, hc, hs⟩)
  dsimp only [Pt.U, Pt.locs, Pt.cells, Pt.slots] at X' h3 h4 h5 st hQ
  subst h3 h4 h5
  exact ⟨v, T', L, X', hQ, fun t k => st.trans k⟩
end OwnMir
theorem own_len0 {Z : State} {args : Array Value} {a : Addr} {cl : Cell} {t : Term} {ty : FieldType} {z : Int32} (ev : t.eval args Z none [] Z = some (.ref a)) (A : Arr Z Z.heap a cl ty) (hl : (Jvm.Cond.eq (Term.length t) (Term.int z)).value args Z none Z [] = some true) : cl.slots.size.toInt32 = z := by
  have hat : Z.arrayAt? a = some cl := A.fin (Vm.Alike.refl _)
  by_cases q : cl.slots.size < 2 ^ 31
  · have e1 := len_f ev hat q
    exact gotT (Cond.eq_ints e1 rfl) hl
  · exfalso
    have e1 : (Term.length t).eval args Z none [] Z = none := by simp [Term.eval, ev, hat, q]
    obtain ⟨x, y, q1, -⟩ := cmp_v (Or.inl hl)
    rw [e1] at q1; cases q1
abbrev own_D (c : ByteArray) (pc : Nat) (i : Instr) (n : Nat) : Prop := decode c pc = .ok (i, n)
abbrev rm4 (f c s l : Nat) : Room := { frames := f, cells := c, slots := s, locals := l }
abbrev own_HW (a0 : Array Value) (Z : State) : Prop := ∀ d ∈ tables_1, d.before a0 Z = true
set_option maxRecDepth 65536
set_option maxHeartbeats 40000000
section Walks
variable {p : Program} {l : Launch} {e : Env} {s : State} {m : MethodId} {args : Array Value} {below : List Frame} {meth : Method} {c : Code} {T0 : State} {locs : List Loc} {Z : State} {a0 : Array Value} {vm0 : Vm} {k0 : Nat}
abbrev own_m0 : MethodName := ⟨"java/lang/StringUTF16", "compress", "([CI[BII)I"⟩
abbrev own_m1 : MethodName := ⟨"java/lang/StringUTF16", "compress", "([CII)[B"⟩
abbrev own_m2 : MethodName := ⟨"java/lang/StringUTF16", "coderFromArrayLen", "([BI)B"⟩
abbrev own_m3 : MethodName := ⟨"java/lang/String", "<init>", "([CIILjava/lang/Void;)V"⟩
abbrev own_m4 : MethodName := ⟨"java/lang/String", "<init>", "([C)V"⟩
abbrev own_m5 : MethodName := ⟨"java/lang/StringLatin1", "canEncode", "(C)Z"⟩
abbrev own_m6 : MethodName := ⟨"java/lang/StringLatin1", "toBytes", "(C)[B"⟩
abbrev own_m7 : MethodName := ⟨"java/lang/String", "<init>", "([BB)V"⟩
abbrev own_m8 : MethodName := ⟨"java/lang/String", "valueOf", "(C)Ljava/lang/String;"⟩
abbrev own_m9 : MethodName := ⟨"java/util/AbstractCollection", "<init>", "()V"⟩
abbrev own_m10 : MethodName := ⟨"java/util/AbstractList", "<init>", "()V"⟩
abbrev own_m11 : MethodName := ⟨"java/util/ArrayList", "<init>", "()V"⟩
abbrev own_m12 : MethodName := ⟨"java/lang/Math", "max", "(II)I"⟩
abbrev own_m13 : MethodName := ⟨"java/util/ArrayList", "grow", "(I)[Ljava/lang/Object;"⟩
abbrev own_m14 : MethodName := ⟨"java/util/ArrayList", "grow", "()[Ljava/lang/Object;"⟩
abbrev own_m15 : MethodName := ⟨"java/util/ArrayList", "add", "(Ljava/lang/Object;[Ljava/lang/Object;I)V"⟩
abbrev own_m16 : MethodName := ⟨"java/util/ArrayList", "add", "(Ljava/lang/Object;)Z"⟩
abbrev own_m17 : MethodName := ⟨"java/util/ImmutableCollections$AbstractImmutableCollection", "<init>", "()V"⟩
abbrev own_m18 : MethodName := ⟨"java/util/ImmutableCollections$AbstractImmutableList", "<init>", "()V"⟩
abbrev own_m19 : MethodName := ⟨"java/util/Objects", "requireNonNull", "(Ljava/lang/Object;)Ljava/lang/Object;"⟩
abbrev own_m20 : MethodName := ⟨"java/lang/Math", "min", "(II)I"⟩
abbrev own_m21 : MethodName := ⟨"java/util/ArrayList", "isEmpty", "()Z"⟩
abbrev own_m22 : MethodName := ⟨"java/util/ImmutableCollections$List12", "<init>", "(Ljava/lang/Object;Ljava/lang/Object;)V"⟩
abbrev own_m23 : MethodName := ⟨"java/util/ImmutableCollections$List12", "<init>", "(Ljava/lang/Object;)V"⟩
abbrev own_m24 : MethodName := ⟨"java/util/ImmutableCollections$ListN", "<init>", "([Ljava/lang/Object;Z)V"⟩
abbrev own_m25 : MethodName := ⟨"java/util/Arrays", "copyOf", "([Ljava/lang/Object;ILjava/lang/Class;)[Ljava/lang/Object;"⟩
abbrev own_m26 : MethodName := ⟨"java/util/Arrays", "copyOf", "([Ljava/lang/Object;I)[Ljava/lang/Object;"⟩
abbrev own_m27 : MethodName := ⟨"java/util/ArrayList", "toArray", "()[Ljava/lang/Object;"⟩
abbrev own_m28 : MethodName := ⟨"java/util/List", "of", "([Ljava/lang/Object;)Ljava/util/List;"⟩
abbrev own_m29 : MethodName := ⟨"java/util/Collection", "isEmpty", "()Z"⟩
abbrev own_m30 : MethodName := ⟨"java/util/Collection", "toArray", "()[Ljava/lang/Object;"⟩
abbrev own_m31 : MethodName := ⟨"java/util/ImmutableCollections", "listCopy", "(Ljava/util/Collection;)Ljava/util/List;"⟩
abbrev own_m32 : MethodName := ⟨"java/util/List", "copyOf", "(Ljava/util/Collection;)Ljava/util/List;"⟩
abbrev own_m33 : MethodName := ⟨"java/util/ImmutableCollections", "listFromArray", "([Ljava/lang/Object;)Ljava/util/List;"⟩
abbrev own_m34 : MethodName := ⟨"java/util/ImmutableCollections$List12", "isEmpty", "()Z"⟩
abbrev own_m35 : MethodName := ⟨"java/util/ImmutableCollections$ListN", "isEmpty", "()Z"⟩
abbrev own_m36 : MethodName := ⟨"java/util/Objects", "requireNonNull", "(Ljava/lang/Object;Ljava/lang/String;)Ljava/lang/Object;"⟩
abbrev own_m37 : MethodName := ⟨"java/util/Optional", "isPresent", "()Z"⟩
abbrev own_m38 : MethodName := ⟨"java/util/Optional", "empty", "()Ljava/util/Optional;"⟩
abbrev own_m39 : MethodName := ⟨"java/util/List", "of", "()Ljava/util/List;"⟩
abbrev own_m40 : MethodName := ⟨"java/util/Optional", "equals", "(Ljava/lang/Object;)Z"⟩
abbrev own_m41 : MethodName := ⟨"java/lang/String", "equals", "(Ljava/lang/Object;)Z"⟩
abbrev own_m42 : MethodName := ⟨"java/util/Optional", "<init>", "(Ljava/lang/Object;)V"⟩
abbrev own_m43 : MethodName := ⟨"java/util/Optional", "of", "(Ljava/lang/Object;)Ljava/util/Optional;"⟩
abbrev own_m44 : MethodName := ⟨"java/lang/Record", "<init>", "()V"⟩
abbrev own_m45 : MethodName := ⟨"java/util/List", "isEmpty", "()Z"⟩
abbrev own_m46 : MethodName := ⟨"com/example/countersign/countersign/Parameter", "<init>", "(Ljava/lang/String;Lcom/example/countersign/countersign/Parameter$Kind;ZLjava/lang/String;Ljava/util/List;ZLcom/example/countersign/countersign/Parameter$Role;Ljava/util/Optional;)V"⟩
abbrev own_m47 : MethodName := ⟨"com/example/countersign/countersign/Parameter", "as", "(Lcom/example/countersign/countersign/Parameter$Role;)Lcom/example/countersign/countersign/Parameter;"⟩
abbrev own_m48 : MethodName := ⟨"com/example/countersign/countersign/Parameter", "asWholeNumber", "()Lcom/example/countersign/countersign/Parameter;"⟩
abbrev own_m49 : MethodName := ⟨"com/example/countersign/countersign/Parameter", "sentAs", "(Ljava/lang/String;)Lcom/example/countersign/countersign/Parameter;"⟩
abbrev own_m50 : MethodName := ⟨"com/example/countersign/countersign/Parameter", "withChoices", "(Ljava/util/List;)Lcom/example/countersign/countersign/Parameter;"⟩
abbrev own_m51 : MethodName := ⟨"com/example/countersign/countersign/Parameter", "optional", "(Ljava/lang/String;Lcom/example/countersign/countersign/Parameter$Kind;Ljava/lang/String;)Lcom/example/countersign/countersign/Parameter;"⟩
abbrev own_m52 : MethodName := ⟨"com/example/countersign/countersign/Parameter", "required", "(Ljava/lang/String;Lcom/example/countersign/countersign/Parameter$Kind;Ljava/lang/String;)Lcom/example/countersign/countersign/Parameter;"⟩
abbrev own_m53 : MethodName := ⟨"com/example/countersign/countersign/Parameter", "name", "()Ljava/lang/String;"⟩
abbrev own_m54 : MethodName := ⟨"com/example/countersign/countersign/Parameter", "kind", "()Lcom/example/countersign/countersign/Parameter$Kind;"⟩
abbrev own_m55 : MethodName := ⟨"com/example/countersign/countersign/Parameter", "required", "()Z"⟩
abbrev own_m56 : MethodName := ⟨"com/example/countersign/countersign/Parameter", "description", "()Ljava/lang/String;"⟩
abbrev own_m57 : MethodName := ⟨"com/example/countersign/countersign/Parameter", "choices", "()Ljava/util/List;"⟩
abbrev own_m58 : MethodName := ⟨"com/example/countersign/countersign/Parameter", "wholeNumber", "()Z"⟩
abbrev own_m59 : MethodName := ⟨"com/example/countersign/countersign/Parameter", "role", "()Lcom/example/countersign/countersign/Parameter$Role;"⟩
abbrev own_m60 : MethodName := ⟨"com/example/countersign/countersign/Parameter", "header", "()Ljava/util/Optional;"⟩
abbrev own_m61 : MethodName := ⟨"java/util/ImmutableCollections$ListN", "size", "()I"⟩
abbrev own_m62 : MethodName := ⟨"java/util/ImmutableCollections$List12", "size", "()I"⟩
abbrev own_m63 : MethodName := ⟨"java/util/ImmutableCollections$List12", "get", "(I)Ljava/lang/Object;"⟩
abbrev own_m64 : MethodName := ⟨"java/util/ImmutableCollections$ListN", "get", "(I)Ljava/lang/Object;"⟩
abbrev own_m65 : MethodName := ⟨"java/util/List", "size", "()I"⟩
abbrev own_m66 : MethodName := ⟨"java/util/List", "get", "(I)Ljava/lang/Object;"⟩
abbrev ks0 : String := "com/example/countersign/countersign/Parameter"
abbrev ks1 : String := "com/example/countersign/countersign/Parameter$Role"
abbrev ks2 : String := "java/lang/Object"
abbrev ks3 : String := "com/example/countersign/countersign/ParameterAsPinLaw"
abbrev ks4 : String := "java/util/ImmutableCollections$List12"
abbrev ks5 : String := "Lcom/example/countersign/countersign/Parameter$Kind;"
abbrev ks6 : String := "java/util/ArrayList"
abbrev ks7 : String := "Lcom/example/countersign/countersign/Parameter$Role;"
abbrev ks8 : String := "[Ljava/lang/Object;"
abbrev ks9 : String := "com/example/countersign/countersign/Parameter$Kind"
abbrev ks10 : String := "java/lang/String"
abbrev ks11 : String := "java/util/ImmutableCollections$ListN"
abbrev ks12 : String := "Ljava/lang/Object;"
abbrev ks13 : String := "Ljava/lang/String;"
abbrev ks14 : String := "java/util/Optional"
abbrev ks15 : String := "Ljava/util/Optional;"
abbrev ks16 : String := "Ljava/util/List;"
abbrev ks17 : String := "java/util/AbstractList"
abbrev ks18 : String := "java/util/List"
abbrev ks19 : String := "java/util/ImmutableCollections"
abbrev ks20 : String := "elementData"
abbrev ks21 : String := "description"
abbrev ks22 : String := "wholeNumber"
abbrev ks23 : String := "required"
abbrev bc1 : ByteArray := jdk_42_method_3_code
abbrev bc2 : ByteArray := jdk_42_method_149_code
abbrev bc4 : ByteArray := jdk_52_method_16_code
abbrev bc5 : ByteArray := jdk_52_method_21_code
abbrev bc6 : ByteArray := jdk_52_method_15_code
abbrev bc7 : ByteArray := jdk_42_method_139_code
abbrev bc8 : ByteArray := jdk_43_method_3_code
abbrev bc9 : ByteArray := jdk_43_method_46_code
abbrev bc10 : ByteArray := jdk_42_method_151_code
abbrev bc11 : ByteArray := jdk_38_method_2_code
abbrev bc12 : ByteArray := jdk_39_method_1_code
abbrev bc13 : ByteArray := jdk_22_method_1_code
abbrev bc14 : ByteArray := prog_6_method_3_code
abbrev bc15 : ByteArray := jdk_40_method_36_code
abbrev bc16 : ByteArray := jdk_32_method_1_code
abbrev bc17 : ByteArray := prog_6_method_1_code
abbrev bc18 : ByteArray := jdk_30_method_1_code
abbrev bc19 : ByteArray := jdk_31_method_11_code
abbrev bc20 : ByteArray := jdk_40_method_48_code
abbrev bc21 : ByteArray := jdk_56_method_3_code
abbrev bc22 : ByteArray := jdk_45_method_2_code
abbrev bc23 : ByteArray := jdk_32_method_6_code
abbrev bc24 : ByteArray := prog_6_method_6_code
abbrev bc25 : ByteArray := prog_6_method_17_code
abbrev bc26 : ByteArray := prog_6_method_11_code
abbrev bc27 : ByteArray := jdk_42_method_66_code
abbrev bc28 : ByteArray := prog_6_method_12_code
abbrev bc29 : ByteArray := prog_6_method_13_code
abbrev bc30 : ByteArray := prog_6_method_14_code
abbrev bc31 : ByteArray := prog_6_method_16_code
abbrev bc32 : ByteArray := prog_6_method_18_code
abbrev bc33 : ByteArray := jdk_32_method_19_code
abbrev bc34 : ByteArray := prog_6_method_15_code
abbrev bc35 : ByteArray := jdk_45_method_3_code
abbrev bc36 : ByteArray := prog_6_method_2_code
abbrev bc37 : ByteArray := jdk_38_method_25_code
abbrev bc38 : ByteArray := jdk_38_method_24_code
abbrev bc39 : ByteArray := jdk_38_method_7_code
abbrev bc40 : ByteArray := jdk_38_method_6_code
abbrev bc41 : ByteArray := jdk_29_method_65_code
abbrev bc42 : ByteArray := prog_6_method_4_code
abbrev bc43 : ByteArray := jdk_38_method_9_code
abbrev bc44 : ByteArray := jdk_38_method_16_code
abbrev bc45 : ByteArray := jdk_65_method_119_code
abbrev bc46 : ByteArray := jdk_65_method_120_code
abbrev bc47 : ByteArray := jdk_29_method_69_code
abbrev bc48 : ByteArray := jdk_40_method_47_code
abbrev bc49 : ByteArray := jdk_56_method_4_code
abbrev bc50 : ByteArray := jdk_31_method_10_code
abbrev bc51 : ByteArray := jdk_45_method_1_code
abbrev bc52 : ByteArray := jdk_46_method_1_code
abbrev bc53 : ByteArray := jdk_47_method_1_code
abbrev bc54 : ByteArray := jdk_45_method_4_code
abbrev bc55 : ByteArray := prog_6_method_5_code
abbrev bc56 : ByteArray := prog_6_method_7_code
abbrev bc57 : ByteArray := jdk_32_method_3_code
abbrev bc58 : ByteArray := jdk_32_method_2_code
abbrev bc59 : ByteArray := jdk_44_method_2_code
abbrev bc60 : ByteArray := jdk_44_method_4_code
abbrev bc61 : ByteArray := jdk_44_method_3_code
abbrev bc62 : ByteArray := jdk_44_method_5_code
abbrev bc63 : ByteArray := jdk_44_method_1_code
theorem own_wS {Z : State} {a0 : Array Value} (hw : own_HW a0 Z) : ∀ a ∈ Bundle.stringAtoms, a.before a0 Z = true := by
  intro d hd
  simp only [Bundle.stringAtoms, Bundle.sN, List.mem_cons, List.not_mem_nil, or_false] at hd
  rcases hd with rfl | rfl | rfl | rfl | rfl | rfl | rfl
  · exact (wd hw 29 rfl)
  · exact (wd hw 28 rfl)
  · exact (wd hw 46 rfl)
  · exact (wd hw 56 rfl)
  · exact (wd hw 54 rfl)
  · exact (wd hw 123 rfl)
  · exact (wd hw 124 rfl)

/-- the five messages have been loaded -/
def own_wm (Z : State) (vm : Vm) : Prop := (∃ a, Lit (Z.setVm vm) ks0 7 a) ∧ (∃ a, Lit (Z.setVm vm) ks0 15 a) ∧ (∃ a, Lit (Z.setVm vm) ks0 17 a) ∧ (∃ a, Lit (Z.setVm vm) ks0 19 a) ∧ (∃ a, Lit (Z.setVm vm) ks0 21 a)
theorem own_wmS {Z : State} {vm0 vm1 : Vm} (h : own_wm Z vm0) (hW : (Z.setVm vm0).Warmed39 vm1) : own_wm Z vm1 := by
  obtain ⟨⟨a1, h1⟩, ⟨a2, h2⟩, ⟨a3, h3⟩, ⟨a4, h4⟩, ⟨a5, h5⟩⟩ := h
  exact ⟨⟨a1, Lit.stays h1 hW⟩, ⟨a2, Lit.stays h2 hW⟩, ⟨a3, Lit.stays h3 hW⟩, ⟨a4, Lit.stays h4 hW⟩, ⟨a5, Lit.stays h5 hW⟩⟩
def own_pv : Value → Int32
  | .null => 0
  | _ => 1
def own_B (x : Int32) : Prop := x = 0 ∨ x = 1
theorem own_bz {x : Int32} (h : own_B x) : narrow .boolean (.int x) = .int x := by rcases h with rfl | rfl <;> rfl
theorem own_bf {x : Int32} (h : own_B x) : fits .boolean (.int x) = true := by rcases h with rfl | rfl <;> rfl
theorem own_bn {x : Int32} (h : own_B x) : nar .boolean x = x := by rcases h with rfl | rfl <;> rfl
theorem d5_0 : own_D bc5 0 (.iconst 0) 1 := by decide +kernel
theorem d5_1 : own_D bc5 1 (.istore 5) 2 := by decide +kernel
theorem d5_3 : own_D bc5 3 (.iload 5) 2 := by decide +kernel
theorem d5_5 : own_D bc5 5 (.iload 4) 2 := by decide +kernel
theorem d5_7 : own_D bc5 7 (.if_icmp .ge 37) 3 := by decide +kernel
theorem d5_10 : own_D bc5 10 (.aload_n 0) 1 := by decide +kernel
theorem d5_11 : own_D bc5 11 (.iload_n 1) 1 := by decide +kernel
theorem d5_12 : own_D bc5 12 (.caload) 1 := by decide +kernel
theorem d5_13 : own_D bc5 13 (.istore 6) 2 := by decide +kernel
theorem d5_15 : own_D bc5 15 (.iload 6) 2 := by decide +kernel
theorem d5_17 : own_D bc5 17 (.sipush 255) 3 := by decide +kernel
theorem d5_20 : own_D bc5 20 (.if_icmp .le 6) 3 := by decide +kernel
theorem d5_26 : own_D bc5 26 (.aload_n 2) 1 := by decide +kernel
theorem d5_27 : own_D bc5 27 (.iload_n 3) 1 := by decide +kernel
theorem d5_28 : own_D bc5 28 (.iload 6) 2 := by decide +kernel
theorem d5_30 : own_D bc5 30 (.i2b) 1 := by decide +kernel
theorem d5_31 : own_D bc5 31 (.bastore) 1 := by decide +kernel
theorem d5_32 : own_D bc5 32 (.iinc 1 1) 3 := by decide +kernel
theorem d5_35 : own_D bc5 35 (.iinc 3 1) 3 := by decide +kernel
theorem d5_38 : own_D bc5 38 (.iinc 5 1) 3 := by decide +kernel
theorem d5_41 : own_D bc5 41 (.goto (-38)) 3 := by decide +kernel
theorem d5_44 : own_D bc5 44 (.iload 4) 2 := by decide +kernel
theorem d5_46 : own_D bc5 46 (.ireturn) 1 := by decide +kernel
theorem pn_0 : plainName "java/lang/StringUTF16" = true := by first | (simp [plainName, overriddenIn]; done) | decide +kernel
theorem ef_cmp5_2 (m : MethodId) (x0 : Addr) (x1 : Int32) (x2 : Addr) (x3 : Int32) (x4 : Int32) : entryFrame m #[(.ref x0), (.int x1), (.ref x2), (.int x3), (.int x4)] 7 = mkF m 0 #[rv x0, iv x1, rv x2, iv x3, iv x4, .unset, .unset] [] := by simp [entryFrame, mkF, argsToLocals, Value.category]
def Q_cmp5_2 (Z : State) (va : Addr) (da : Addr) (kc : ClassId) (kd : ClassId) (c0 : Int32) (c1 : Int32) (h0 : Heap) (n0 : Nat) (v : Option Value) (h : Heap) (L : List Loc) : Prop := (v = some (.int (2 : Int32))) ∧ (Fr n0 L) ∧ (Keep h0 h [da]) ∧ (Arv Z h da kd .byte (2 : Int32) [(.int (c0.toInt8.toInt32)), (.int (c1.toInt8.toInt32))] (.int (0 : Int32)))
theorem rm_cmp5_2 (l : Launch) (Z : State) (a0 : Array Value) (hw : own_HW a0 Z) (ws : List Jvm.Cond) (va : Addr) (da : Addr) (kc : ClassId) (kd : ClassId) (c0 : Int32) (c1 : Int32) (h0 : Heap) (n0 : Nat) (O0 : Old Z n0 h0) (VA : Arv Z h0 va kc .char (2 : Int32) [(.int c0), (.int c1)] (.int (0 : Int32))) (VD : Arv Z h0 da kd .byte (2 : Int32) [(.int (0 : Int32)), (.int (0 : Int32))] (.int (0 : Int32))) (nad : va ≠ da) (fda : n0 ≤ da) (hp0 : ¬ (255 : Int32) < c0) (hp1 : ¬ (255 : Int32) < c1) :
    own_MF l own_m0 (Jvm.Cond.code own_m0 bc5 7 (some .int) :: ws) (rm4 0 0 0 0) #[(.ref va), (.int (0 : Int32)), (.ref da), (.int (0 : Int32)), (.int (2 : Int32))] Z h0 (Q_cmp5_2 Z va da kc kd c0 c1 h0 n0) := by
  refine own_met (own := "java/lang/StringUTF16") (nme := "compress") rfl rfl (plainFor_of_name pn_0) ?_
  intro p e s m below meth c s₁ hx hby hml hown hnm X0 e0 hret hlk hZ
  have N0 := Fr.nil n0
  rw [ef_cmp5_2 m va (0 : Int32) da (0 : Int32) (2 : Int32)]
  refine own_st (T' := s₁) (g' := (mkF m 1 #[rv va, iv (0 : Int32), rv da, iv (0 : Int32), iv (2 : Int32), .unset, .unset] [(.int (0 : Int32))])) (fun _ k_ => XS.iconst X0.here hx rfl (hb hby d5_0) k_) ?_
  refine own_st (T' := s₁) (g' := (mkF m 3 #[rv va, iv (0 : Int32), rv da, iv (0 : Int32), iv (2 : Int32), iv (0 : Int32), .unset] [])) (fun _ k_ => XS.istore X0.here hx rfl (hb hby d5_1) rfl (l' := #[rv va, iv (0 : Int32), rv da, iv (0 : Int32), iv (2 : Int32), iv (0 : Int32), .unset]) rfl k_) ?_
  refine own_sp (q := 5) (S' := [(.int (0 : Int32))]) (fun _ k_ => XS.iload X0.here hx rfl (hb hby d5_3) rfl  k_) ?_
  refine own_sp (q := 7) (S' := [(.int (2 : Int32)), (.int (0 : Int32))]) (fun _ k_ => XS.iload X0.here hx rfl (hb hby d5_5) rfl  k_) ?_
  refine own_sp (q := 10) (S' := []) (fun _ k_ => XS.icmpNo X0.here hx rfl (hb hby d5_7) rfl (tlt (by decide : (0 : Int32) < (2 : Int32))).2.1 k_) ?_
  refine own_sp (q := 11) (S' := [(.ref va)]) (fun _ k_ => XS.aloadN X0.here hx rfl (hb hby d5_10) rfl rfl  k_) ?_
  refine own_sp (q := 12) (S' := [(.int (0 : Int32)), (.ref va)]) (fun _ k_ => XS.iloadN X0.here hx rfl (hb hby d5_11) rfl  k_) ?_
  obtain ⟨cl1, Ar1, q1, S1, N1, H1, G1⟩ := id VA
  have hin1 : ¬ ((0 : Int32) < 0 ∨ cl1.slots.size ≤ ((0 : Int32)).toNatClampNeg) := inb_of S1 ⟨by decide, by decide⟩
  refine own_sp (q := 13) (S' := [(.int c0)]) (X0.caload hx (j := (0 : Int32)) (v := (.int c0)) (by rw [e0]; exact Ar1.1) (State.isArrayOf_alike hZ.alike Ar1.2.1) Ar1.2.2 hin1 (H1.at hin1 rfl) (g := (mkF m 12 #[rv va, iv (0 : Int32), rv da, iv (0 : Int32), iv (2 : Int32), iv (0 : Int32), .unset] [(.int (0 : Int32)), (.ref va)])) rfl rfl (hb hby d5_12)) ?_
  clear hin1 G1 H1 N1 S1 q1 Ar1 cl1
  refine own_st (T' := s₁) (g' := (mkF m 15 #[rv va, iv (0 : Int32), rv da, iv (0 : Int32), iv (2 : Int32), iv (0 : Int32), iv c0] [])) (fun _ k_ => XS.istore X0.here hx rfl (hb hby d5_13) rfl (l' := #[rv va, iv (0 : Int32), rv da, iv (0 : Int32), iv (2 : Int32), iv (0 : Int32), iv c0]) rfl k_) ?_
  refine own_sp (q := 17) (S' := [(.int c0)]) (fun _ k_ => XS.iload X0.here hx rfl (hb hby d5_15) rfl  k_) ?_
  refine own_sp (q := 20) (S' := [(.int (255 : Int32)), (.int c0)]) (fun _ k_ => XS.sipush X0.here hx rfl (hb hby d5_17) k_) ?_
  refine own_sp (q := 26) (S' := []) (fun _ k_ => XS.icmpYes X0.here hx rfl (pc0 := 20) (pc' := 26) rfl (hb hby d5_20) rfl (flt (hp0 : ¬ ((255 : Int32) < c0))).2.2.2 (by decide) (by decide) k_) ?_
  refine own_sp (q := 27) (S' := [(.ref da)]) (fun _ k_ => XS.aloadN X0.here hx rfl (hb hby d5_26) rfl rfl  k_) ?_
  refine own_sp (q := 28) (S' := [(.int (0 : Int32)), (.ref da)]) (fun _ k_ => XS.iloadN X0.here hx rfl (hb hby d5_27) rfl  k_) ?_
  refine own_sp (q := 30) (S' := [(.int c0), (.int (0 : Int32)), (.ref da)]) (fun _ k_ => XS.iload X0.here hx rfl (hb hby d5_28) rfl  k_) ?_
  refine own_sp (q := 31) (S' := [(.int (c0.toInt8.toInt32)), (.int (0 : Int32)), (.ref da)]) (fun _ k_ => XS.i2b X0.here hx rfl (hb hby d5_30) rfl k_) ?_
  obtain ⟨cl2, Ar2, q2, S2, N2, H2, G2⟩ := id VD
  have hin2 : ¬ ((0 : Int32) < 0 ∨ cl2.slots.size ≤ ((0 : Int32)).toNatClampNeg) := inb_of S2 ⟨by decide, by decide⟩
  obtain ⟨T3, h3, X3, e3, W3, st3⟩ := stB X0 hx hZ e0 Ar2 (j := (0 : Int32)) hin2 (g := (mkF m 31 #[rv va, iv (0 : Int32), rv da, iv (0 : Int32), iv (2 : Int32), iv (0 : Int32), iv c0] [(.int (c0.toInt8.toInt32)), (.int (0 : Int32)), (.ref da)])) rfl rfl (hb hby d5_31)
  have V3 : Arv Z h3 da kd .byte (2 : Int32) [(.int (nar .byte (c0.toInt8.toInt32))), (.int (0 : Int32))] (.int (0 : Int32)) := Arv.set Ar2 q2 S2 N2 H2 G2 (fits_nar_byte _) W3 0 rfl (Nat.le_of_ble_eq_true rfl)
  have Vn3 : Arv Z h3 da kd .byte (2 : Int32) [(.int (c0.toInt8.toInt32)), (.int (0 : Int32))] (.int (0 : Int32)) := by simpa only [own_bb] using V3
  have Nx3 := Fr.snoc X3 N0 fda
  refine own_sp (q := 32) (S' := []) st3 ?_
  clear hin2 G2 H2 N2 S2 q2 Ar2 cl2 st3
  refine own_st (T' := T3) (g' := (mkF m 35 #[rv va, iv (1 : Int32), rv da, iv (0 : Int32), iv (2 : Int32), iv (0 : Int32), iv c0] [])) (fun _ k_ => XS.iinc X3.here hx rfl (hb hby d5_32) rfl (l' := #[rv va, iv (1 : Int32), rv da, iv (0 : Int32), iv (2 : Int32), iv (0 : Int32), iv c0]) rfl k_) ?_
  refine own_st (T' := T3) (g' := (mkF m 38 #[rv va, iv (1 : Int32), rv da, iv (1 : Int32), iv (2 : Int32), iv (0 : Int32), iv c0] [])) (fun _ k_ => XS.iinc X3.here hx rfl (hb hby d5_35) rfl (l' := #[rv va, iv (1 : Int32), rv da, iv (1 : Int32), iv (2 : Int32), iv (0 : Int32), iv c0]) rfl k_) ?_
  refine own_st (T' := T3) (g' := (mkF m 41 #[rv va, iv (1 : Int32), rv da, iv (1 : Int32), iv (2 : Int32), iv (1 : Int32), iv c0] [])) (fun _ k_ => XS.iinc X3.here hx rfl (hb hby d5_38) rfl (l' := #[rv va, iv (1 : Int32), rv da, iv (1 : Int32), iv (2 : Int32), iv (1 : Int32), iv c0]) rfl k_) ?_
  refine own_sp (q := 3) (S' := []) (fun _ k_ => XS.goto X3.here hx rfl (pc0 := 41) (pc' := 3) rfl (hb hby d5_41) (by decide) (by decide) k_) ?_
  refine own_sp (q := 5) (S' := [(.int (1 : Int32))]) (fun _ k_ => XS.iload X3.here hx rfl (hb hby d5_3) rfl  k_) ?_
  refine own_sp (q := 7) (S' := [(.int (2 : Int32)), (.int (1 : Int32))]) (fun _ k_ => XS.iload X3.here hx rfl (hb hby d5_5) rfl  k_) ?_
  refine own_sp (q := 10) (S' := []) (fun _ k_ => XS.icmpNo X3.here hx rfl (hb hby d5_7) rfl (tlt (by decide : (1 : Int32) < (2 : Int32))).2.1 k_) ?_
  refine own_sp (q := 11) (S' := [(.ref va)]) (fun _ k_ => XS.aloadN X3.here hx rfl (hb hby d5_10) rfl rfl  k_) ?_
  refine own_sp (q := 12) (S' := [(.int (1 : Int32)), (.ref va)]) (fun _ k_ => XS.iloadN X3.here hx rfl (hb hby d5_11) rfl  k_) ?_
  have f4 := VA.other W3 nad
  obtain ⟨cl5, Ar5, q5, S5, N5, H5, G5⟩ := id f4
  have hin5 : ¬ ((1 : Int32) < 0 ∨ cl5.slots.size ≤ ((1 : Int32)).toNatClampNeg) := inb_of S5 ⟨by decide, by decide⟩
  refine own_sp (q := 13) (S' := [(.int c1)]) (X3.caload hx (j := (1 : Int32)) (v := (.int c1)) (by rw [e3]; exact Ar5.1) (State.isArrayOf_alike hZ.alike Ar5.2.1) Ar5.2.2 hin5 (H5.at hin5 rfl) (g := (mkF m 12 #[rv va, iv (1 : Int32), rv da, iv (1 : Int32), iv (2 : Int32), iv (1 : Int32), iv c0] [(.int (1 : Int32)), (.ref va)])) rfl rfl (hb hby d5_12)) ?_
  clear hin5 G5 H5 N5 S5 q5 Ar5 cl5
  refine own_st (T' := T3) (g' := (mkF m 15 #[rv va, iv (1 : Int32), rv da, iv (1 : Int32), iv (2 : Int32), iv (1 : Int32), iv c1] [])) (fun _ k_ => XS.istore X3.here hx rfl (hb hby d5_13) rfl (l' := #[rv va, iv (1 : Int32), rv da, iv (1 : Int32), iv (2 : Int32), iv (1 : Int32), iv c1]) rfl k_) ?_
  refine own_sp (q := 17) (S' := [(.int c1)]) (fun _ k_ => XS.iload X3.here hx rfl (hb hby d5_15) rfl  k_) ?_
  refine own_sp (q := 20) (S' := [(.int (255 : Int32)), (.int c1)]) (fun _ k_ => XS.sipush X3.here hx rfl (hb hby d5_17) k_) ?_
  refine own_sp (q := 26) (S' := []) (fun _ k_ => XS.icmpYes X3.here hx rfl (pc0 := 20) (pc' := 26) rfl (hb hby d5_20) rfl (flt (hp1 : ¬ ((255 : Int32) < c1))).2.2.2 (by decide) (by decide) k_) ?_
  refine own_sp (q := 27) (S' := [(.ref da)]) (fun _ k_ => XS.aloadN X3.here hx rfl (hb hby d5_26) rfl rfl  k_) ?_
  refine own_sp (q := 28) (S' := [(.int (1 : Int32)), (.ref da)]) (fun _ k_ => XS.iloadN X3.here hx rfl (hb hby d5_27) rfl  k_) ?_
  refine own_sp (q := 30) (S' := [(.int c1), (.int (1 : Int32)), (.ref da)]) (fun _ k_ => XS.iload X3.here hx rfl (hb hby d5_28) rfl  k_) ?_
  refine own_sp (q := 31) (S' := [(.int (c1.toInt8.toInt32)), (.int (1 : Int32)), (.ref da)]) (fun _ k_ => XS.i2b X3.here hx rfl (hb hby d5_30) rfl k_) ?_
  obtain ⟨cl6, Ar6, q6, S6, N6, H6, G6⟩ := id Vn3
  have hin6 : ¬ ((1 : Int32) < 0 ∨ cl6.slots.size ≤ ((1 : Int32)).toNatClampNeg) := inb_of S6 ⟨by decide, by decide⟩
  obtain ⟨T7, h7, X7, e7, W7, st7⟩ := stB X3 hx hZ e3 Ar6 (j := (1 : Int32)) hin6 (g := (mkF m 31 #[rv va, iv (1 : Int32), rv da, iv (1 : Int32), iv (2 : Int32), iv (1 : Int32), iv c1] [(.int (c1.toInt8.toInt32)), (.int (1 : Int32)), (.ref da)])) rfl rfl (hb hby d5_31)
  have V7 : Arv Z h7 da kd .byte (2 : Int32) [(.int (c0.toInt8.toInt32)), (.int (nar .byte (c1.toInt8.toInt32)))] (.int (0 : Int32)) := Arv.set Ar6 q6 S6 N6 H6 G6 (fits_nar_byte _) W7 1 rfl (Nat.le_of_ble_eq_true rfl)
  have Vn7 : Arv Z h7 da kd .byte (2 : Int32) [(.int (c0.toInt8.toInt32)), (.int (c1.toInt8.toInt32))] (.int (0 : Int32)) := by simpa only [own_bb] using V7
  have Nx7 := Fr.snoc X7 Nx3 fda
  refine own_sp (q := 32) (S' := []) st7 ?_
  clear hin6 G6 H6 N6 S6 q6 Ar6 cl6 st7
  refine own_st (T' := T7) (g' := (mkF m 35 #[rv va, iv (2 : Int32), rv da, iv (1 : Int32), iv (2 : Int32), iv (1 : Int32), iv c1] [])) (fun _ k_ => XS.iinc X7.here hx rfl (hb hby d5_32) rfl (l' := #[rv va, iv (2 : Int32), rv da, iv (1 : Int32), iv (2 : Int32), iv (1 : Int32), iv c1]) rfl k_) ?_
  refine own_st (T' := T7) (g' := (mkF m 38 #[rv va, iv (2 : Int32), rv da, iv (2 : Int32), iv (2 : Int32), iv (1 : Int32), iv c1] [])) (fun _ k_ => XS.iinc X7.here hx rfl (hb hby d5_35) rfl (l' := #[rv va, iv (2 : Int32), rv da, iv (2 : Int32), iv (2 : Int32), iv (1 : Int32), iv c1]) rfl k_) ?_
  refine own_st (T' := T7) (g' := (mkF m 41 #[rv va, iv (2 : Int32), rv da, iv (2 : Int32), iv (2 : Int32), iv (2 : Int32), iv c1] [])) (fun _ k_ => XS.iinc X7.here hx rfl (hb hby d5_38) rfl (l' := #[rv va, iv (2 : Int32), rv da, iv (2 : Int32), iv (2 : Int32), iv (2 : Int32), iv c1]) rfl k_) ?_
  refine own_sp (q := 3) (S' := []) (fun _ k_ => XS.goto X7.here hx rfl (pc0 := 41) (pc' := 3) rfl (hb hby d5_41) (by decide) (by decide) k_) ?_
  refine own_sp (q := 5) (S' := [(.int (2 : Int32))]) (fun _ k_ => XS.iload X7.here hx rfl (hb hby d5_3) rfl  k_) ?_
  refine own_sp (q := 7) (S' := [(.int (2 : Int32)), (.int (2 : Int32))]) (fun _ k_ => XS.iload X7.here hx rfl (hb hby d5_5) rfl  k_) ?_
  refine own_sp (q := 44) (S' := []) (fun _ k_ => XS.icmpYes X7.here hx rfl (pc0 := 7) (pc' := 44) rfl (hb hby d5_7) rfl (flt (by decide : ¬ ((2 : Int32) < (2 : Int32)))).2.1 (by decide) (by decide) k_) ?_
  refine own_sp (q := 46) (S' := [(.int (2 : Int32))]) (fun _ k_ => XS.iload X7.here hx rfl (hb hby d5_44) rfl  k_) ?_
  have f8 := (Keep.refl h0 [da]).wr W3 (Or.inl (List.mem_of_getElem? (i := 0) rfl))
  have f9 := f8.wr W7 (Or.inl (List.mem_of_getElem? (i := 0) rfl))
  exact own_retI X7 hx hret hlk (hb hby d5_46) (by decide) (by decide) (by rw [e7]; exact ⟨rfl, Nx7, f9, Vn7⟩)
theorem d4_0 : own_D bc4 0 (.iload_n 2) 1 := by decide +kernel
theorem d4_1 : own_D bc4 1 (.newarray .byte) 2 := by decide +kernel
theorem d4_3 : own_D bc4 3 (.astore_n 3) 1 := by decide +kernel
theorem d4_4 : own_D bc4 4 (.aload_n 0) 1 := by decide +kernel
theorem d4_5 : own_D bc4 5 (.iload_n 1) 1 := by decide +kernel
theorem d4_6 : own_D bc4 6 (.aload_n 3) 1 := by decide +kernel
theorem d4_7 : own_D bc4 7 (.iconst 0) 1 := by decide +kernel
theorem d4_8 : own_D bc4 8 (.iload_n 2) 1 := by decide +kernel
theorem d4_9 : own_D bc4 9 (.invokestatic 115) 3 := by decide +kernel
theorem d4_12 : own_D bc4 12 (.istore 4) 2 := by decide +kernel
theorem d4_14 : own_D bc4 14 (.iload 4) 2 := by decide +kernel
theorem d4_16 : own_D bc4 16 (.iload_n 2) 1 := by decide +kernel
theorem d4_17 : own_D bc4 17 (.if_icmp .eq 40) 3 := by decide +kernel
theorem d4_57 : own_D bc4 57 (.aload_n 3) 1 := by decide +kernel
theorem d4_58 : own_D bc4 58 (.areturn) 1 := by decide +kernel
theorem pd___CI_BII_I : parseMethodDescriptor "([CI[BII)I" = some ⟨[(.array .char), .int, (.array .byte), .int, .int], some .int⟩ := by decide +kernel
theorem ef_cmp3_2 (m : MethodId) (x0 : Addr) (x1 : Int32) (x2 : Int32) : entryFrame m #[(.ref x0), (.int x1), (.int x2)] 6 = mkF m 0 #[rv x0, iv x1, iv x2, .unset, .unset, .unset] [] := rfl
def Q_cmp3_2 (Z : State) (va : Addr) (kc : ClassId) (c0 : Int32) (c1 : Int32) (h0 : Heap) (n0 : Nat) (v : Option Value) (h : Heap) (L : List Loc) : Prop := ∃ (t : Addr) (kb : ClassId), (v = some (.ref t)) ∧ (Fr n0 L) ∧ (Keep h0 h []) ∧ (Arv Z h t kb .byte (2 : Int32) [(.int (c0.toInt8.toInt32)), (.int (c1.toInt8.toInt32))] (.int (0 : Int32))) ∧ (h0.size ≤ t)
theorem rm_cmp3_2 (l : Launch) (Z : State) (a0 : Array Value) (hw : own_HW a0 Z) (ws : List Jvm.Cond) (va : Addr) (kc : ClassId) (c0 : Int32) (c1 : Int32) (h0 : Heap) (n0 : Nat) (O0 : Old Z n0 h0) (VA : Arv Z h0 va kc .char (2 : Int32) [(.int c0), (.int c1)] (.int (0 : Int32))) (hp0 : ¬ (255 : Int32) < c0) (hp1 : ¬ (255 : Int32) < c1) :
    own_MF l own_m1 (Jvm.Cond.code own_m1 bc4 6 (some (.array .byte)) :: ws) (rm4 1 1 2 18) #[(.ref va), (.int (0 : Int32)), (.int (2 : Int32))] Z h0 (Q_cmp3_2 Z va kc c0 c1 h0 n0) := by
  refine own_met (own := "java/lang/StringUTF16") (nme := "compress") rfl rfl (plainFor_of_name pn_0) ?_
  intro p e s m below meth c s₁ hx hby hml hown hnm X0 e0 hret hlk hZ
  have N0 := Fr.nil n0
  rw [ef_cmp3_2 m va (0 : Int32) (2 : Int32)]
  refine own_st (T' := s₁) (g' := (mkF m 1 #[rv va, iv (0 : Int32), iv (2 : Int32), .unset, .unset, .unset] [(.int (2 : Int32))])) (fun _ k_ => XS.iloadN X0.here hx rfl (hb hby d4_0) rfl  k_) ?_
  obtain ⟨T1, h1, k1, X1, e1, E1, A1, st1⟩ := newP X0 hx hZ (wd hw 46 rfl) e0 (g := (mkF m 1 #[rv va, iv (0 : Int32), iv (2 : Int32), .unset, .unset, .unset] [(.int (2 : Int32))])) rfl (hb hby d4_1) rfl (by decide) (cap := 2) (by decide) (by decide) (by decide) (by decide)
  obtain ⟨b1, g1⟩ : ∃ z, z = h0.size := ⟨_, rfl⟩
  rw [← g1] at A1 st1
  have fr1 : n0 ≤ b1 := Nat.le_trans (own_z O0) (Nat.le_of_eq g1.symm)
  have sz1 : h0.size ≤ b1 := Nat.le_trans (Keep.refl h0 []).1 (Nat.le_of_eq g1.symm)
  have V1 : Arv Z h1 b1 k1 .byte (2 : Int32) [(.int (0 : Int32)), (.int (0 : Int32))] (.int (0 : Int32)) := (Arv.new A1 (by decide)).pad (pad_rep [] (.int (0 : Int32)) 2)
  refine own_sp (q := 3) (S' := [(.ref b1)]) st1 ?_
  clear st1
  refine own_st (T' := T1) (g' := (mkF m 4 #[rv va, iv (0 : Int32), iv (2 : Int32), rv b1, .unset, .unset] [])) (fun _ k_ => XS.astoreN X1.here hx rfl (hb hby d4_3) rfl rfl (l' := #[rv va, iv (0 : Int32), iv (2 : Int32), rv b1, .unset, .unset]) rfl k_) ?_
  refine own_sp (q := 5) (S' := [(.ref va)]) (fun _ k_ => XS.aloadN X1.here hx rfl (hb hby d4_4) rfl rfl  k_) ?_
  refine own_sp (q := 6) (S' := [(.int (0 : Int32)), (.ref va)]) (fun _ k_ => XS.iloadN X1.here hx rfl (hb hby d4_5) rfl  k_) ?_
  refine own_sp (q := 7) (S' := [(.ref b1), (.int (0 : Int32)), (.ref va)]) (fun _ k_ => XS.aloadN X1.here hx rfl (hb hby d4_6) rfl rfl  k_) ?_
  refine own_sp (q := 8) (S' := [(.int (0 : Int32)), (.ref b1), (.int (0 : Int32)), (.ref va)]) (fun _ k_ => XS.iconst X1.here hx rfl (hb hby d4_7) k_) ?_
  refine own_sp (q := 9) (S' := [(.int (2 : Int32)), (.int (0 : Int32)), (.ref b1), (.int (0 : Int32)), (.ref va)]) (fun _ k_ => XS.iloadN X1.here hx rfl (hb hby d4_8) rfl  k_) ?_
  have f2 := VA.ext E1
  have ne3 : va ≠ b1 := Nat.ne_of_lt (Nat.lt_of_lt_of_le VA.lt (Nat.le_of_eq g1.symm))
  have f4 := O0.ext E1
  refine own_kcS own_ckE X1 hx hZ hown hml (y := own_m0) (wd hw 47 rfl) (wd hw 48 rfl) (wd hw 44 rfl) (wd hw 49 rfl) (by decide) (rm_cmp5_2 l Z a0 hw [] va b1 kc k1 c0 c1 h1 n0 f4 f2 V1 ne3 fr1 hp0 hp1) (by decide) (by decide) (W := 0) (Nat.le_of_eq rfl) (argsL := [(.ref va), (.int (0 : Int32)), (.ref b1), (.int (0 : Int32)), (.int (2 : Int32))]) (rest := []) (lenOf pd___CI_BII_I rfl) rfl rfl (hb hby d4_9) rfl e1 (by decide) (by decide) (c' := 1) (s' := 2) rfl rfl (q := 12) rfl fun _ T5 L5 X5 hQ5 => ?_
  obtain ⟨rfl, Nq5, K5, fq5_0⟩ := hQ5
  have N5 := Fr.app N0 Nq5
  show own_E p e below s _ _ _ T5 (mkF m 12 _ [(.int (2 : Int32))])
  refine own_st (T' := T5) (g' := (mkF m 14 #[rv va, iv (0 : Int32), iv (2 : Int32), rv b1, iv (2 : Int32), .unset] [])) (fun _ k_ => XS.istore X5.here hx rfl (hb hby d4_12) rfl (l' := #[rv va, iv (0 : Int32), iv (2 : Int32), rv b1, iv (2 : Int32), .unset]) rfl k_) ?_
  refine own_sp (q := 16) (S' := [(.int (2 : Int32))]) (fun _ k_ => XS.iload X5.here hx rfl (hb hby d4_14) rfl  k_) ?_
  refine own_sp (q := 17) (S' := [(.int (2 : Int32)), (.int (2 : Int32))]) (fun _ k_ => XS.iloadN X5.here hx rfl (hb hby d4_16) rfl  k_) ?_
  refine own_sp (q := 57) (S' := []) (fun _ k_ => XS.icmpYes X5.here hx rfl (pc0 := 17) (pc' := 57) rfl (hb hby d4_17) rfl (teq (rfl : (2 : Int32) = (2 : Int32))).1 (by decide) (by decide) k_) ?_
  refine own_sp (q := 58) (S' := [(.ref b1)]) (fun _ k_ => XS.aloadN X5.here hx rfl (hb hby d4_57) rfl rfl  k_) ?_
  have f6 := (Keep.refl h0 []).ext E1
  have f7 := f6.trans K5 (allS (Or.inr sz1) all0)
  exact own_retA X5 hx hret rfl rfl hlk (hb hby d4_58) (by decide) (by decide) ⟨b1, k1, rfl, N5, f7, fq5_0, sz1⟩
theorem d6_0 : own_D bc6 0 (.iload_n 1) 1 := by decide +kernel
theorem d6_1 : own_D bc6 1 (.aload_n 0) 1 := by decide +kernel
theorem d6_2 : own_D bc6 2 (.arraylength) 1 := by decide +kernel
theorem d6_3 : own_D bc6 3 (.isub) 1 := by decide +kernel
theorem d6_4 : own_D bc6 4 (.bipush 31) 2 := by decide +kernel
theorem d6_6 : own_D bc6 6 (.iushr) 1 := by decide +kernel
theorem d6_7 : own_D bc6 7 (.i2b) 1 := by decide +kernel
theorem d6_8 : own_D bc6 8 (.ireturn) 1 := by decide +kernel
theorem ef_cdr_2 (m : MethodId) (x0 : Addr) (x1 : Int32) : entryFrame m #[(.ref x0), (.int x1)] 2 = mkF m 0 #[rv x0, iv x1] [] := rfl
def Q_cdr_2 (Z : State) (t : Addr) (kb : ClassId) (vs : List Value) (h0 : Heap) (n0 : Nat) (v : Option Value) (h : Heap) (L : List Loc) : Prop := (v = some (.int (0 : Int32))) ∧ (Fr n0 L) ∧ (h = h0)
theorem rm_cdr_2 (l : Launch) (Z : State) (a0 : Array Value) (hw : own_HW a0 Z) (ws : List Jvm.Cond) (t : Addr) (kb : ClassId) (vs : List Value) (h0 : Heap) (n0 : Nat) (O0 : Old Z n0 h0) (VT : Arv Z h0 t kb .byte (2 : Int32) vs (.int (0 : Int32))) :
    own_MF l own_m2 (Jvm.Cond.code own_m2 bc6 2 (some .byte) :: ws) (rm4 0 0 0 0) #[(.ref t), (.int (2 : Int32))] Z h0 (Q_cdr_2 Z t kb vs h0 n0) := by
  refine own_met (own := "java/lang/StringUTF16") (nme := "coderFromArrayLen") rfl rfl (plainFor_of_name pn_0) ?_
  intro p e s m below meth c s₁ hx hby hml hown hnm X0 e0 hret hlk hZ
  have N0 := Fr.nil n0
  rw [ef_cdr_2 m t (2 : Int32)]
  refine own_st (T' := s₁) (g' := (mkF m 1 #[rv t, iv (2 : Int32)] [(.int (2 : Int32))])) (fun _ k_ => XS.iloadN X0.here hx rfl (hb hby d6_0) rfl  k_) ?_
  refine own_sp (q := 2) (S' := [(.ref t), (.int (2 : Int32))]) (fun _ k_ => XS.aloadN X0.here hx rfl (hb hby d6_1) rfl rfl  k_) ?_
  obtain ⟨cl1, Ar1, -, S1, N1, -, -⟩ := id VT
  refine own_sp (q := 3) (S' := [(.int (2 : Int32)), (.int (2 : Int32))]) (fun t_ k_ => X0.arraylength hx (by rw [e0]; exact Ar1.1) (State.isArrayOf_alike hZ.alike Ar1.2.1) (g := (mkF m 2 #[rv t, iv (2 : Int32)] [(.ref t), (.int (2 : Int32))])) rfl rfl (hb hby d6_2) _ (by rw [len_of S1 N1]; exact k_)) ?_
  refine own_sp (q := 4) (S' := [(.int (0 : Int32))]) (fun _ k_ => XS.isub X0.here hx rfl (hb hby d6_3) rfl k_) ?_
  refine own_sp (q := 6) (S' := [(.int (31 : Int32)), (.int (0 : Int32))]) (fun _ k_ => XS.bipush X0.here hx rfl (hb hby d6_4) k_) ?_
  refine own_sp (q := 7) (S' := [(.int (((0 : Int32).toUInt32 >>> ((31 : Int32) &&& 31).toUInt32).toInt32))]) (fun _ k_ => XS.iushr X0.here hx rfl (hb hby d6_6) rfl k_) ?_
  refine own_sp (q := 8) (S' := [(.int ((((0 : Int32).toUInt32 >>> ((31 : Int32) &&& 31).toUInt32).toInt32).toInt8.toInt32))]) (fun _ k_ => XS.i2b X0.here hx rfl (hb hby d6_7) rfl k_) ?_
  exact own_retN X0 hx (t := .byte) hret (by simp) hlk (hb hby d6_8) (by decide) (by decide) ⟨(by decide), N0, e0⟩
theorem d2_0 : own_D bc2 0 (.aload_n 0) 1 := by decide +kernel
theorem d2_1 : own_D bc2 1 (.invokespecial 1) 3 := by decide +kernel
theorem d2_4 : own_D bc2 4 (.iload_n 3) 1 := by decide +kernel
theorem d2_5 : own_D bc2 5 (.ifCond .ne 22) 3 := by decide +kernel
theorem d2_27 : own_D bc2 27 (.getstatic 38) 3 := by decide +kernel
theorem d2_30 : own_D bc2 30 (.ifCond .eq 28) 3 := by decide +kernel
theorem d2_33 : own_D bc2 33 (.aload_n 1) 1 := by decide +kernel
theorem d2_34 : own_D bc2 34 (.iload_n 2) 1 := by decide +kernel
theorem d2_35 : own_D bc2 35 (.iload_n 3) 1 := by decide +kernel
theorem d2_36 : own_D bc2 36 (.invokestatic 177) 3 := by decide +kernel
theorem d2_39 : own_D bc2 39 (.astore 5) 2 := by decide +kernel
theorem d2_41 : own_D bc2 41 (.aload_n 0) 1 := by decide +kernel
theorem d2_42 : own_D bc2 42 (.aload 5) 2 := by decide +kernel
theorem d2_44 : own_D bc2 44 (.iload_n 3) 1 := by decide +kernel
theorem d2_45 : own_D bc2 45 (.invokestatic 47) 3 := by decide +kernel
theorem d2_48 : own_D bc2 48 (.putfield 15) 3 := by decide +kernel
theorem d2_51 : own_D bc2 51 (.aload_n 0) 1 := by decide +kernel
theorem d2_52 : own_D bc2 52 (.aload 5) 2 := by decide +kernel
theorem d2_54 : own_D bc2 54 (.putfield 9) 3 := by decide +kernel
theorem d2_57 : own_D bc2 57 (.return_) 1 := by decide +kernel
theorem pd___CII__B : parseMethodDescriptor "([CII)[B" = some ⟨[(.array .char), .int, .int], some (.array .byte)⟩ := by decide +kernel
theorem pd___BI_B : parseMethodDescriptor "([BI)B" = some ⟨[(.array .byte), .int], some .byte⟩ := by decide +kernel
theorem pn_1 : plainName "java/lang/String" = true := by first | (simp [plainName, overriddenIn]; done) | decide +kernel
theorem ef_ini4_2 (m : MethodId) (x0 : Addr) (x1 : Addr) (x2 : Int32) (x3 : Int32) : entryFrame m #[(.ref x0), (.ref x1), (.int x2), (.int x3), .null] 6 = mkF m 0 #[rv x0, rv x1, iv x2, iv x3, .val .null, .unset] [] := by simp [entryFrame, mkF, argsToLocals, Value.category]
def Q_ini4_2 (Z : State) (a : Addr) (va : Addr) (kc : ClassId) (cz : Int32) (c0 : Int32) (c1 : Int32) (h0 : Heap) (n0 : Nat) (v : Option Value) (h : Heap) (L : List Loc) : Prop := ∃ (t : Addr) (kb : ClassId), (v = none) ∧ (Fr n0 L) ∧ (Keep h0 h [a]) ∧ (Exa Z h a ks10) ∧ (Fld Z h a ks10 "coder" "B" (.int (0 : Int32))) ∧ (Fld Z h a ks10 "value" "[B" (.ref t)) ∧ (Arv Z h t kb .byte (2 : Int32) [(.int (c0.toInt8.toInt32)), (.int (c1.toInt8.toInt32))] (.int (0 : Int32))) ∧ (h0.size ≤ t)
theorem rm_ini4_2 (l : Launch) (Z : State) (a0 : Array Value) (hw : own_HW a0 Z) (ws : List Jvm.Cond) (a : Addr) (va : Addr) (kc : ClassId) (cz : Int32) (c0 : Int32) (c1 : Int32) (h0 : Heap) (n0 : Nat) (O0 : Old Z n0 h0) (EA : Exa Z h0 a ks10) (FV : Fld Z h0 a ks10 "value" "[B" .null) (FC : Fld Z h0 a ks10 "coder" "B" (.int (0 : Int32))) (fa : n0 ≤ a) (VA : Arv Z h0 va kc .char (2 : Int32) [(.int c0), (.int c1)] (.int (0 : Int32))) (SC : Sta Z Z.heap ks10 "COMPACT_STRINGS" "Z" (.int cz)) (hcz : ¬ cz = (0 : Int32)) (hp0 : ¬ (255 : Int32) < c0) (hp1 : ¬ (255 : Int32) < c1) :
    own_MF l own_m3 (Jvm.Cond.code own_m3 bc2 6 none :: ws) (rm4 2 1 2 35) #[(.ref a), (.ref va), (.int (0 : Int32)), (.int (2 : Int32)), .null] Z h0 (Q_ini4_2 Z a va kc cz c0 c1 h0 n0) := by
  refine own_met (own := ks10) (nme := "<init>") rfl rfl (plainFor_of_name pn_1) ?_
  intro p e s m below meth c s₁ hx hby hml hown hnm X0 e0 hret hlk hZ
  have N0 := Fr.nil n0
  rw [ef_ini4_2 m a va (0 : Int32) (2 : Int32)]
  refine own_st (T' := s₁) (g' := (mkF m 1 #[rv a, rv va, iv (0 : Int32), iv (2 : Int32), .val .null, .unset] [(.ref a)])) (fun _ k_ => XS.aloadN X0.here hx rfl (hb hby d2_0) rfl rfl  k_) ?_
  obtain ⟨T1, X1, e1, st1⟩ := initO X0 hx hZ hown (wd hw 38 rfl) (wd hw 39 rfl) (wd hw 40 rfl) e0 (g := (mkF m 1 #[rv a, rv va, iv (0 : Int32), iv (2 : Int32), .val .null, .unset] [(.ref a)])) rfl (by rw [hml]; rfl) rfl (hb hby d2_1) (by decide) (W := 0) (by show 2 * 0 + _ ≤ _; exact Nat.le_of_eq rfl) (by decide)
  refine own_sp (q := 4) (S' := []) st1 ?_
  clear st1
  refine own_sp (q := 5) (S' := [(.int (2 : Int32))]) (fun _ k_ => XS.iloadN X1.here hx rfl (hb hby d2_4) rfl  k_) ?_
  refine own_sp (q := 27) (S' := []) (fun _ k_ => XS.ifYes X1.here hx rfl (pc0 := 5) (pc' := 27) rfl (hb hby d2_5) rfl ((if0 _ _).trans (feq (by decide : ¬ ((2 : Int32) = (0 : Int32)))).2) (by decide) (by decide) k_) ?_
  refine own_kgs own_ckE X1 hx hZ hown (host := "") (Or.inl (wd hw 41 rfl)) Via.refl e1 (SC.ext O0.2) (hb hby d2_27) (q := 30) rfl fun T2 X2 e2 => ?_
  refine own_sp (q := 33) (S' := []) (fun _ k_ => XS.ifNo X2.here hx rfl (hb hby d2_30) rfl ((if0 _ _).trans (feq (hcz : ¬ (cz = (0 : Int32)))).1) k_) ?_
  refine own_sp (q := 34) (S' := [(.ref va)]) (fun _ k_ => XS.aloadN X2.here hx rfl (hb hby d2_33) rfl rfl  k_) ?_
  refine own_sp (q := 35) (S' := [(.int (0 : Int32)), (.ref va)]) (fun _ k_ => XS.iloadN X2.here hx rfl (hb hby d2_34) rfl  k_) ?_
  refine own_sp (q := 36) (S' := [(.int (2 : Int32)), (.int (0 : Int32)), (.ref va)]) (fun _ k_ => XS.iloadN X2.here hx rfl (hb hby d2_35) rfl  k_) ?_
  refine own_kcS own_ckE X2 hx hZ hown hml (y := own_m1) (wd hw 42 rfl) (wd hw 43 rfl) (wd hw 44 rfl) (wd hw 45 rfl) (by decide) (rm_cmp3_2 l Z a0 hw [] va kc c0 c1 h0 n0 O0 VA hp0 hp1) (by decide) (by decide) (W := 0) (Nat.le_of_eq rfl) (argsL := [(.ref va), (.int (0 : Int32)), (.int (2 : Int32))]) (rest := []) (lenOf pd___CII__B rfl) rfl rfl (hb hby d2_36) rfl e2 (by decide) (by decide) (c' := 1) (s' := 2) rfl rfl (q := 39) rfl fun _ T3 L3 X3 hQ3 => ?_
  obtain ⟨t3, kb3, rfl, Nq3, K3, fq3_0, xq3_fresh_t⟩ := hQ3
  have N3 := Fr.app N0 Nq3
  show own_E p e below s _ _ _ T3 (mkF m 39 _ [(.ref t3)])
  refine own_st (T' := T3) (g' := (mkF m 41 #[rv a, rv va, iv (0 : Int32), iv (2 : Int32), .val .null, rv t3] [])) (fun _ k_ => XS.astore X3.here hx rfl (hb hby d2_39) rfl rfl (l' := #[rv a, rv va, iv (0 : Int32), iv (2 : Int32), .val .null, rv t3]) rfl k_) ?_
  refine own_sp (q := 42) (S' := [(.ref a)]) (fun _ k_ => XS.aloadN X3.here hx rfl (hb hby d2_41) rfl rfl  k_) ?_
  refine own_sp (q := 44) (S' := [(.ref t3), (.ref a)]) (fun _ k_ => XS.aload X3.here hx rfl (hb hby d2_42) rfl rfl  k_) ?_
  refine own_sp (q := 45) (S' := [(.int (2 : Int32)), (.ref t3), (.ref a)]) (fun _ k_ => XS.iloadN X3.here hx rfl (hb hby d2_44) rfl  k_) ?_
  have f4 := O0.keep K3 all0
  refine own_kcS own_ckE X3 hx hZ hown hml (y := own_m2) (wd hw 50 rfl) (wd hw 51 rfl) (wd hw 44 rfl) (wd hw 52 rfl) (by decide) (rm_cdr_2 l Z a0 hw [] t3 kb3 [(.int (c0.toInt8.toInt32)), (.int (c1.toInt8.toInt32))] T3.heap n0 f4 fq3_0) (by decide) (by decide) (W := 1) (Nat.le_of_eq rfl) (argsL := [(.ref t3), (.int (2 : Int32))]) (rest := [(.ref a)]) (lenOf pd___BI_B rfl) rfl rfl (hb hby d2_45) rfl rfl (by decide) (by decide) (c' := 1) (s' := 2) rfl rfl (q := 48) rfl fun _ T5 L5 X5 hQ5 => ?_
  obtain ⟨rfl, Nq5, eq5⟩ := hQ5
  have N5 := Fr.app N3 Nq5
  show own_E p e below s _ _ _ T5 (mkF m 48 _ [(.int (0 : Int32)), (.ref a)])
  have f6 := EA.keep K3
  have f7 := FC.keep K3 nin0
  obtain ⟨T8, h8, X8, e8, W8, st8⟩ := putFN X5 hx hZ hown (wd hw 53 rfl) Via.refl eq5 f7 f6 (Or.inr ⟨(wd hw 54 rfl), rfl, hnm⟩) (wd hw 28 rfl) (ty := .byte) (v' := (.int (0 : Int32))) (by decide) rfl (by decide) (g := (mkF m 48 #[rv a, rv va, iv (0 : Int32), iv (2 : Int32), .val .null, rv t3] [(.int (0 : Int32)), (.ref a)])) rfl rfl (hb hby d2_48)
  have Fw8 : Fld Z h8 a ks10 "coder" "B" (.int (0 : Int32)) := Fld.same W8 f7
  have N8 := Fr.snoc X8 N5 fa
  refine own_sp (q := 51) (S' := []) st8 ?_
  clear st8
  refine own_sp (q := 52) (S' := [(.ref a)]) (fun _ k_ => XS.aloadN X8.here hx rfl (hb hby d2_51) rfl rfl  k_) ?_
  refine own_sp (q := 54) (S' := [(.ref t3), (.ref a)]) (fun _ k_ => XS.aload X8.here hx rfl (hb hby d2_52) rfl rfl  k_) ?_
  have f9 := f6.wr W8
  have f10 := FV.keep K3 nin0
  have f11 := f10.other W8 (Or.inr (slot_ne (Or.inr (wd hw 56 rfl)) (Or.inr (wd hw 54 rfl)) (by decide) (t := (.array .byte)) (t' := .byte) (by decide) (by decide)))
  refine own_kput own_ckE X8 hx hZ hown (host := "") (Or.inl (wd hw 55 rfl)) Via.refl e8 f11 f9 (Or.inr ⟨(wd hw 56 rfl), rfl, hnm⟩) (wd hw 28 rfl) (ty := (.array .byte)) (by decide) rfl rfl (hb hby d2_54) (q := 57) rfl fun T12 h12 X12 e12 W12 => ?_
  have Fw12 : Fld Z h12 a ks10 "value" "[B" (.ref t3) := Fld.same W12 f11
  have N12 := Fr.snoc X12 N8 fa
  have f13 := (Keep.refl h0 [a]).trans K3 all0
  have f14 := f13.wr W8 (Or.inl (List.mem_of_getElem? (i := 0) rfl))
  have f15 := f14.wr W12 (Or.inl (List.mem_of_getElem? (i := 0) rfl))
  have f16 := f9.wr W12
  have f17 := Fw8.other W12 (Or.inr (slot_ne (Or.inr (wd hw 54 rfl)) (Or.inr (wd hw 56 rfl)) (by decide) (t := .byte) (t' := (.array .byte)) (by decide) (by decide)))
  have ne18 : a ≠ t3 := Nat.ne_of_lt (Nat.lt_of_lt_of_le EA.lt xq3_fresh_t)
  have f19 := fq3_0.other W8 (Ne.symm ne18)
  have f20 := f19.other W12 (Ne.symm ne18)
  exact own_retV X12 hx hret hlk (hb hby d2_57) (by decide) (by decide) (by rw [e12]; exact ⟨t3, kb3, rfl, N12, f15, f16, f17, Fw12, f20, (Nat.le_trans (Keep.refl h0 [a]).1 xq3_fresh_t)⟩)
theorem d1_0 : own_D bc1 0 (.aload_n 0) 1 := by decide +kernel
theorem d1_1 : own_D bc1 1 (.aload_n 1) 1 := by decide +kernel
theorem d1_2 : own_D bc1 2 (.iconst 0) 1 := by decide +kernel
theorem d1_3 : own_D bc1 3 (.aload_n 1) 1 := by decide +kernel
theorem d1_4 : own_D bc1 4 (.arraylength) 1 := by decide +kernel
theorem d1_5 : own_D bc1 5 (.aconst_null) 1 := by decide +kernel
theorem d1_6 : own_D bc1 6 (.invokespecial 27) 3 := by decide +kernel
theorem d1_9 : own_D bc1 9 (.return_) 1 := by decide +kernel
theorem pd___CIILjava_lang_Void__V : parseMethodDescriptor "([CIILjava/lang/Void;)V" = some ⟨[(.array .char), .int, .int, (.object "java/lang/Void")], none⟩ := by decide +kernel
theorem ef_ini1_2 (m : MethodId) (x0 : Addr) (x1 : Addr) : entryFrame m #[(.ref x0), (.ref x1)] 2 = mkF m 0 #[rv x0, rv x1] [] := rfl
def Q_ini1_2 (Z : State) (a : Addr) (va : Addr) (kc : ClassId) (cz : Int32) (c0 : Int32) (c1 : Int32) (h0 : Heap) (n0 : Nat) (v : Option Value) (h : Heap) (L : List Loc) : Prop := ∃ (t : Addr) (kb : ClassId), (v = none) ∧ (Fr n0 L) ∧ (Keep h0 h [a]) ∧ (Exa Z h a ks10) ∧ (Fld Z h a ks10 "coder" "B" (.int (0 : Int32))) ∧ (Fld Z h a ks10 "value" "[B" (.ref t)) ∧ (Arv Z h t kb .byte (2 : Int32) [(.int (c0.toInt8.toInt32)), (.int (c1.toInt8.toInt32))] (.int (0 : Int32))) ∧ (h0.size ≤ t)
theorem rm_ini1_2 (l : Launch) (Z : State) (a0 : Array Value) (hw : own_HW a0 Z) (ws : List Jvm.Cond) (a : Addr) (va : Addr) (kc : ClassId) (cz : Int32) (c0 : Int32) (c1 : Int32) (h0 : Heap) (n0 : Nat) (O0 : Old Z n0 h0) (EA : Exa Z h0 a ks10) (FV : Fld Z h0 a ks10 "value" "[B" .null) (FC : Fld Z h0 a ks10 "coder" "B" (.int (0 : Int32))) (fa : n0 ≤ a) (VA : Arv Z h0 va kc .char (2 : Int32) [(.int c0), (.int c1)] (.int (0 : Int32))) (SC : Sta Z Z.heap ks10 "COMPACT_STRINGS" "Z" (.int cz)) (hcz : ¬ cz = (0 : Int32)) (hp0 : ¬ (255 : Int32) < c0) (hp1 : ¬ (255 : Int32) < c1) :
    own_MF l own_m4 (Jvm.Cond.code own_m4 bc1 2 none :: ws) (rm4 3 1 2 52) #[(.ref a), (.ref va)] Z h0 (Q_ini1_2 Z a va kc cz c0 c1 h0 n0) := by
  refine own_met (own := ks10) (nme := "<init>") rfl rfl (plainFor_of_name pn_1) ?_
  intro p e s m below meth c s₁ hx hby hml hown hnm X0 e0 hret hlk hZ
  have N0 := Fr.nil n0
  rw [ef_ini1_2 m a va]
  refine own_st (T' := s₁) (g' := (mkF m 1 #[rv a, rv va] [(.ref a)])) (fun _ k_ => XS.aloadN X0.here hx rfl (hb hby d1_0) rfl rfl  k_) ?_
  refine own_sp (q := 2) (S' := [(.ref va), (.ref a)]) (fun _ k_ => XS.aloadN X0.here hx rfl (hb hby d1_1) rfl rfl  k_) ?_
  refine own_sp (q := 3) (S' := [(.int (0 : Int32)), (.ref va), (.ref a)]) (fun _ k_ => XS.iconst X0.here hx rfl (hb hby d1_2) k_) ?_
  refine own_sp (q := 4) (S' := [(.ref va), (.int (0 : Int32)), (.ref va), (.ref a)]) (fun _ k_ => XS.aloadN X0.here hx rfl (hb hby d1_3) rfl rfl  k_) ?_
  obtain ⟨cl1, Ar1, -, S1, N1, -, -⟩ := id VA
  refine own_sp (q := 5) (S' := [(.int (2 : Int32)), (.int (0 : Int32)), (.ref va), (.ref a)]) (fun t_ k_ => X0.arraylength hx (by rw [e0]; exact Ar1.1) (State.isArrayOf_alike hZ.alike Ar1.2.1) (g := (mkF m 4 #[rv a, rv va] [(.ref va), (.int (0 : Int32)), (.ref va), (.ref a)])) rfl rfl (hb hby d1_4) _ (by rw [len_of S1 N1]; exact k_)) ?_
  refine own_sp (q := 6) (S' := [.null, (.int (2 : Int32)), (.int (0 : Int32)), (.ref va), (.ref a)]) (fun _ k_ => XS.aconstNull X0.here hx rfl (hb hby d1_5) k_) ?_
  refine own_kcI own_ckE X0 hx hZ hown hml (y := own_m3) rfl (wd hw 34 rfl) (wd hw 35 rfl) (wd hw 29 rfl) (wd hw 37 rfl) (by decide) (a := a) (rm_ini4_2 l Z a0 hw [] a va kc cz c0 c1 h0 n0 O0 EA FV FC fa VA SC hcz hp0 hp1) (by decide) (by decide) (W := 0) (Nat.le_of_eq rfl) (argsL := [(.ref va), (.int (0 : Int32)), (.int (2 : Int32)), .null]) (rest := []) (lenOf pd___CIILjava_lang_Void__V rfl) rfl rfl (hb hby d1_6) rfl e0 (by decide) (by decide) (c' := 1) (s' := 2) rfl rfl (q := 9) rfl fun _ T2 L2 X2 hQ2 => ?_
  obtain ⟨t2, kb2, rfl, Nq2, K2, fq2_0, fq2_1, fq2_2, fq2_3, xq2_fresh_t⟩ := hQ2
  have N2 := Fr.app N0 Nq2
  show own_E p e below s _ _ _ T2 (mkF m 9 _ [])
  have f3 := (Keep.refl h0 [a]).trans K2 (allS (Or.inl (List.mem_of_getElem? (i := 0) rfl)) all0)
  exact own_retV X2 hx hret hlk (hb hby d1_9) (by decide) (by decide) ⟨t2, kb2, rfl, N2, f3, fq2_0, fq2_1, fq2_2, fq2_3, (Nat.le_trans (Keep.refl h0 [a]).1 xq2_fresh_t)⟩
def own_can (c : Int32) : Int32 := if (255 : Int32) < c then 0 else 1
theorem own_canL {c : Int32} (h : ¬ (255 : Int32) < c) : ¬ own_can c = 0 := by unfold own_can; rw [if_neg h]; decide
theorem d8_0 : own_D bc8 0 (.iload_n 0) 1 := by decide +kernel
theorem d8_1 : own_D bc8 1 (.sipush 255) 3 := by decide +kernel
theorem d8_4 : own_D bc8 4 (.if_icmp .gt 7) 3 := by decide +kernel
theorem d8_7 : own_D bc8 7 (.iconst 1) 1 := by decide +kernel
theorem d8_8 : own_D bc8 8 (.goto 4) 3 := by decide +kernel
theorem d8_11 : own_D bc8 11 (.iconst 0) 1 := by decide +kernel
theorem d8_12 : own_D bc8 12 (.ireturn) 1 := by decide +kernel
theorem pn_2 : plainName "java/lang/StringLatin1" = true := by first | (simp [plainName, overriddenIn]; done) | decide +kernel
theorem ef_can (m : MethodId) (x0 : Int32) : entryFrame m #[(.int x0)] 1 = mkF m 0 #[iv x0] [] := rfl
def Q_can (Z : State) (cc : Int32) (h0 : Heap) (n0 : Nat) (v : Option Value) (h : Heap) (L : List Loc) : Prop := (v = some (.int (own_can cc))) ∧ (Fr n0 L) ∧ (h = h0)
theorem rm_can (l : Launch) (Z : State) (a0 : Array Value) (hw : own_HW a0 Z) (ws : List Jvm.Cond) (cc : Int32) (h0 : Heap) (n0 : Nat) (O0 : Old Z n0 h0) :
    own_MF l own_m5 (Jvm.Cond.code own_m5 bc8 1 (some .boolean) :: ws) (rm4 0 0 0 0) #[(.int cc)] Z h0 (Q_can Z cc h0 n0) := by
  refine own_met (own := "java/lang/StringLatin1") (nme := "canEncode") rfl rfl (plainFor_of_name pn_2) ?_
  intro p e s m below meth c s₁ hx hby hml hown hnm X0 e0 hret hlk hZ
  have N0 := Fr.nil n0
  rw [ef_can m cc]
  refine own_st (T' := s₁) (g' := (mkF m 1 #[iv cc] [(.int cc)])) (fun _ k_ => XS.iloadN X0.here hx rfl (hb hby d8_0) rfl  k_) ?_
  refine own_sp (q := 4) (S' := [(.int (255 : Int32)), (.int cc)]) (fun _ k_ => XS.sipush X0.here hx rfl (hb hby d8_1) k_) ?_
  by_cases hc1 : (255 : Int32) < cc
  · refine own_sp (q := 11) (S' := []) (fun _ k_ => XS.icmpYes X0.here hx rfl (pc0 := 4) (pc' := 11) rfl (hb hby d8_4) rfl (tlt hc1).2.2.1 (by decide) (by decide) k_) ?_
    refine own_sp (q := 12) (S' := [(.int (0 : Int32))]) (fun _ k_ => XS.iconst X0.here hx rfl (hb hby d8_11) k_) ?_
    exact own_retN X0 hx (t := .boolean) hret (by simp) hlk (hb hby d8_12) (by decide) (by decide) ⟨(by unfold own_can; rw [if_pos hc1]; rfl), N0, e0⟩
  · refine own_sp (q := 7) (S' := []) (fun _ k_ => XS.icmpNo X0.here hx rfl (hb hby d8_4) rfl (flt hc1).2.2.1 k_) ?_
    refine own_sp (q := 8) (S' := [(.int (1 : Int32))]) (fun _ k_ => XS.iconst X0.here hx rfl (hb hby d8_7) k_) ?_
    refine own_sp (q := 12) (S' := [(.int (1 : Int32))]) (fun _ k_ => XS.goto X0.here hx rfl (pc0 := 8) (pc' := 12) rfl (hb hby d8_8) (by decide) (by decide) k_) ?_
    exact own_retN X0 hx (t := .boolean) hret (by simp) hlk (hb hby d8_12) (by decide) (by decide) ⟨(by unfold own_can; rw [if_neg hc1]; rfl), N0, e0⟩
theorem d9_0 : own_D bc9 0 (.iconst 1) 1 := by decide +kernel
theorem d9_1 : own_D bc9 1 (.newarray .byte) 2 := by decide +kernel
theorem d9_3 : own_D bc9 3 (.dup) 1 := by decide +kernel
theorem d9_4 : own_D bc9 4 (.iconst 0) 1 := by decide +kernel
theorem d9_5 : own_D bc9 5 (.iload_n 0) 1 := by decide +kernel
theorem d9_6 : own_D bc9 6 (.i2b) 1 := by decide +kernel
theorem d9_7 : own_D bc9 7 (.bastore) 1 := by decide +kernel
theorem d9_8 : own_D bc9 8 (.areturn) 1 := by decide +kernel
def Q_tb1 (Z : State) (cc : Int32) (h0 : Heap) (n0 : Nat) (v : Option Value) (h : Heap) (L : List Loc) : Prop := ∃ (t : Addr), (v = some (.ref t)) ∧ (Fr n0 L) ∧ (Keep h0 h [])
theorem rm_tb1 (l : Launch) (Z : State) (a0 : Array Value) (hw : own_HW a0 Z) (ws : List Jvm.Cond) (cc : Int32) (h0 : Heap) (n0 : Nat) (O0 : Old Z n0 h0) :
    own_MF l own_m6 (Jvm.Cond.code own_m6 bc9 1 (some (.array .byte)) :: ws) (rm4 0 1 1 0) #[(.int cc)] Z h0 (Q_tb1 Z cc h0 n0) := by
  refine own_met (own := "java/lang/StringLatin1") (nme := "toBytes") rfl rfl (plainFor_of_name pn_2) ?_
  intro p e s m below meth c s₁ hx hby hml hown hnm X0 e0 hret hlk hZ
  have N0 := Fr.nil n0
  rw [ef_can m cc]
  refine own_st (T' := s₁) (g' := (mkF m 1 #[iv cc] [(.int (1 : Int32))])) (fun _ k_ => XS.iconst X0.here hx rfl (hb hby d9_0) k_) ?_
  obtain ⟨T1, h1, k1, X1, e1, E1, A1, st1⟩ := newP X0 hx hZ (wd hw 46 rfl) e0 (g := (mkF m 1 #[iv cc] [(.int (1 : Int32))])) rfl (hb hby d9_1) rfl (by decide) (cap := 1) (by decide) (by decide) (by decide) (by decide)
  obtain ⟨b1, g1⟩ : ∃ z, z = h0.size := ⟨_, rfl⟩
  rw [← g1] at A1 st1
  have fr1 : n0 ≤ b1 := Nat.le_trans (own_z O0) (Nat.le_of_eq g1.symm)
  have sz1 : h0.size ≤ b1 := Nat.le_trans (Keep.refl h0 []).1 (Nat.le_of_eq g1.symm)
  have V1 : Arv Z h1 b1 k1 .byte (1 : Int32) [(.int (0 : Int32))] (.int (0 : Int32)) := (Arv.new A1 (by decide)).pad (pad_rep [] (.int (0 : Int32)) 1)
  refine own_sp (q := 3) (S' := [(.ref b1)]) st1 ?_
  clear st1
  refine own_sp (q := 4) (S' := [(.ref b1), (.ref b1)]) (fun _ k_ => XS.dup X1.here hx rfl (hb hby d9_3) rfl rfl k_) ?_
  refine own_sp (q := 5) (S' := [(.int (0 : Int32)), (.ref b1), (.ref b1)]) (fun _ k_ => XS.iconst X1.here hx rfl (hb hby d9_4) k_) ?_
  refine own_sp (q := 6) (S' := [(.int cc), (.int (0 : Int32)), (.ref b1), (.ref b1)]) (fun _ k_ => XS.iloadN X1.here hx rfl (hb hby d9_5) rfl  k_) ?_
  refine own_sp (q := 7) (S' := [(.int (cc.toInt8.toInt32)), (.int (0 : Int32)), (.ref b1), (.ref b1)]) (fun _ k_ => XS.i2b X1.here hx rfl (hb hby d9_6) rfl k_) ?_
  obtain ⟨cl2, Ar2, q2, S2, N2, H2, G2⟩ := id V1
  have hin2 : ¬ ((0 : Int32) < 0 ∨ cl2.slots.size ≤ ((0 : Int32)).toNatClampNeg) := inb_of S2 ⟨by decide, by decide⟩
  obtain ⟨T3, h3, X3, e3, W3, st3⟩ := stB X1 hx hZ e1 Ar2 (j := (0 : Int32)) hin2 (g := (mkF m 7 #[iv cc] [(.int (cc.toInt8.toInt32)), (.int (0 : Int32)), (.ref b1), (.ref b1)])) rfl rfl (hb hby d9_7)
  have V3 : Arv Z h3 b1 k1 .byte (1 : Int32) [(.int (nar .byte (cc.toInt8.toInt32)))] (.int (0 : Int32)) := Arv.set Ar2 q2 S2 N2 H2 G2 (fits_nar_byte _) W3 0 rfl (Nat.le_of_ble_eq_true rfl)
  have Vn3 : Arv Z h3 b1 k1 .byte (1 : Int32) [(.int (cc.toInt8.toInt32))] (.int (0 : Int32)) := by simpa only [own_bb] using V3
  have Nx3 := Fr.snoc X3 N0 fr1
  refine own_sp (q := 8) (S' := [(.ref b1)]) st3 ?_
  clear hin2 G2 H2 N2 S2 q2 Ar2 cl2 st3
  have f4 := (Keep.refl h0 []).ext E1
  have f5 := f4.wr W3 (Or.inr sz1)
  exact own_retA X3 hx hret rfl rfl hlk (hb hby d9_8) (by decide) (by decide) (by rw [e3]; exact ⟨b1, rfl, Nx3, f5⟩)
theorem d10_0 : own_D bc10 0 (.aload_n 0) 1 := by decide +kernel
theorem d10_1 : own_D bc10 1 (.invokespecial 1) 3 := by decide +kernel
theorem d10_4 : own_D bc10 4 (.aload_n 0) 1 := by decide +kernel
theorem d10_5 : own_D bc10 5 (.aload_n 1) 1 := by decide +kernel
theorem d10_6 : own_D bc10 6 (.putfield 9) 3 := by decide +kernel
theorem d10_9 : own_D bc10 9 (.aload_n 0) 1 := by decide +kernel
theorem d10_10 : own_D bc10 10 (.iload_n 2) 1 := by decide +kernel
theorem d10_11 : own_D bc10 11 (.putfield 15) 3 := by decide +kernel
theorem d10_14 : own_D bc10 14 (.return_) 1 := by decide +kernel
theorem ef_inb0 (m : MethodId) (x0 : Addr) (x1 : Addr) (x2 : Int32) : entryFrame m #[(.ref x0), (.ref x1), (.int x2)] 3 = mkF m 0 #[rv x0, rv x1, iv x2] [] := rfl
def Q_inb0 (Z : State) (a : Addr) (t : Addr) (h0 : Heap) (n0 : Nat) (v : Option Value) (h : Heap) (L : List Loc) : Prop := (v = none) ∧ (Fr n0 L) ∧ (Keep h0 h [a]) ∧ (Exa Z h a ks10)
theorem rm_inb0 (l : Launch) (Z : State) (a0 : Array Value) (hw : own_HW a0 Z) (ws : List Jvm.Cond) (a : Addr) (t : Addr) (h0 : Heap) (n0 : Nat) (O0 : Old Z n0 h0) (EA : Exa Z h0 a ks10) (FV : Fld Z h0 a ks10 "value" "[B" .null) (FCo : Fld Z h0 a ks10 "coder" "B" (.int (0 : Int32))) (fa : n0 ≤ a) :
    own_MF l own_m7 (Jvm.Cond.code own_m7 bc10 3 none :: ws) (rm4 1 0 0 12) #[(.ref a), (.ref t), (.int (0 : Int32))] Z h0 (Q_inb0 Z a t h0 n0) := by
  refine own_met (own := ks10) (nme := "<init>") rfl rfl (plainFor_of_name pn_1) ?_
  intro p e s m below meth c s₁ hx hby hml hown hnm X0 e0 hret hlk hZ
  have N0 := Fr.nil n0
  rw [ef_inb0 m a t (0 : Int32)]
  refine own_st (T' := s₁) (g' := (mkF m 1 #[rv a, rv t, iv (0 : Int32)] [(.ref a)])) (fun _ k_ => XS.aloadN X0.here hx rfl (hb hby d10_0) rfl rfl  k_) ?_
  obtain ⟨T1, X1, e1, st1⟩ := initO X0 hx hZ hown (wd hw 38 rfl) (wd hw 39 rfl) (wd hw 40 rfl) e0 (g := (mkF m 1 #[rv a, rv t, iv (0 : Int32)] [(.ref a)])) rfl (by rw [hml]; rfl) rfl (hb hby d10_1) (by decide) (W := 0) (by show 2 * 0 + _ ≤ _; exact Nat.le_of_eq rfl) (by decide)
  refine own_sp (q := 4) (S' := []) st1 ?_
  clear st1
  refine own_sp (q := 5) (S' := [(.ref a)]) (fun _ k_ => XS.aloadN X1.here hx rfl (hb hby d10_4) rfl rfl  k_) ?_
  refine own_sp (q := 6) (S' := [(.ref t), (.ref a)]) (fun _ k_ => XS.aloadN X1.here hx rfl (hb hby d10_5) rfl rfl  k_) ?_
  refine own_kput own_ckE X1 hx hZ hown (host := "") (Or.inl (wd hw 55 rfl)) Via.refl e1 FV EA (Or.inr ⟨(wd hw 56 rfl), rfl, hnm⟩) (wd hw 28 rfl) (ty := (.array .byte)) (by decide) rfl rfl (hb hby d10_6) (q := 9) rfl fun T2 h2 X2 e2 W2 => ?_
  have Fw2 : Fld Z h2 a ks10 "value" "[B" (.ref t) := Fld.same W2 FV
  have N2 := Fr.snoc X2 N0 fa
  refine own_sp (q := 10) (S' := [(.ref a)]) (fun _ k_ => XS.aloadN X2.here hx rfl (hb hby d10_9) rfl rfl  k_) ?_
  refine own_sp (q := 11) (S' := [(.int (0 : Int32)), (.ref a)]) (fun _ k_ => XS.iloadN X2.here hx rfl (hb hby d10_10) rfl  k_) ?_
  have f3 := EA.wr W2
  have f4 := FCo.other W2 (Or.inr (slot_ne (Or.inr (wd hw 54 rfl)) (Or.inr (wd hw 56 rfl)) (by decide) (t := .byte) (t' := (.array .byte)) (by decide) (by decide)))
  obtain ⟨T5, h5, X5, e5, W5, st5⟩ := putFN X2 hx hZ hown (wd hw 53 rfl) Via.refl e2 f4 f3 (Or.inr ⟨(wd hw 54 rfl), rfl, hnm⟩) (wd hw 28 rfl) (ty := .byte) (v' := (.int (0 : Int32))) (by decide) rfl (by decide) (g := (mkF m 11 #[rv a, rv t, iv (0 : Int32)] [(.int (0 : Int32)), (.ref a)])) rfl rfl (hb hby d10_11)
  have Fw5 : Fld Z h5 a ks10 "coder" "B" (.int (0 : Int32)) := Fld.same W5 f4
  have N5 := Fr.snoc X5 N2 fa
  refine own_sp (q := 14) (S' := []) st5 ?_
  clear st5
  have f6 := (Keep.refl h0 [a]).wr W2 (Or.inl (List.mem_of_getElem? (i := 0) rfl))
  have f7 := f6.wr W5 (Or.inl (List.mem_of_getElem? (i := 0) rfl))
  have f8 := f3.wr W5
  exact own_retV X5 hx hret hlk (hb hby d10_14) (by decide) (by decide) (by rw [e5]; exact ⟨rfl, N5, f7, f8⟩)
theorem d7_0 : own_D bc7 0 (.getstatic 38) 3 := by decide +kernel
theorem d7_3 : own_D bc7 3 (.ifCond .eq 23) 3 := by decide +kernel
theorem d7_6 : own_D bc7 6 (.iload_n 0) 1 := by decide +kernel
theorem d7_7 : own_D bc7 7 (.invokestatic 1015) 3 := by decide +kernel
theorem d7_10 : own_D bc7 10 (.ifCond .eq 16) 3 := by decide +kernel
theorem d7_13 : own_D bc7 13 (.new 10) 3 := by decide +kernel
theorem d7_16 : own_D bc7 16 (.dup) 1 := by decide +kernel
theorem d7_17 : own_D bc7 17 (.iload_n 0) 1 := by decide +kernel
theorem d7_18 : own_D bc7 18 (.invokestatic 1018) 3 := by decide +kernel
theorem d7_21 : own_D bc7 21 (.iconst 0) 1 := by decide +kernel
theorem d7_22 : own_D bc7 22 (.invokespecial 209) 3 := by decide +kernel
theorem d7_25 : own_D bc7 25 (.areturn) 1 := by decide +kernel
theorem pd__C_Z : parseMethodDescriptor "(C)Z" = some ⟨[.char], some .boolean⟩ := by decide +kernel
theorem pd__C__B : parseMethodDescriptor "(C)[B" = some ⟨[.char], some (.array .byte)⟩ := by decide +kernel
theorem pd___BB_V : parseMethodDescriptor "([BB)V" = some ⟨[(.array .byte), .byte], none⟩ := by decide +kernel
def Q_vof (Z : State) (cc : Int32) (cz : Int32) (h0 : Heap) (n0 : Nat) (v : Option Value) (h : Heap) (L : List Loc) : Prop := ∃ (b : Addr), (v = some (.ref b)) ∧ (Fr n0 L) ∧ (Keep h0 h []) ∧ (Exa Z h b ks10) ∧ (h0.size ≤ b)
theorem rm_vof (l : Launch) (Z : State) (a0 : Array Value) (hw : own_HW a0 Z) (ws : List Jvm.Cond) (cc : Int32) (cz : Int32) (h0 : Heap) (n0 : Nat) (O0 : Old Z n0 h0) (SC : Sta Z Z.heap ks10 "COMPACT_STRINGS" "Z" (.int cz)) (hcz : ¬ cz = (0 : Int32)) (hcc : ¬ (255 : Int32) < cc) :
    own_MF l own_m8 (Jvm.Cond.code own_m8 bc7 1 (some (.object ks10)) :: ws) (rm4 2 2 5 27) #[(.int cc)] Z h0 (Q_vof Z cc cz h0 n0) := by
  refine own_met (own := ks10) (nme := "valueOf") rfl rfl (plainFor_of_name pn_1) ?_
  intro p e s m below meth c s₁ hx hby hml hown hnm X0 e0 hret hlk hZ
  have N0 := Fr.nil n0
  rw [ef_can m cc]
  refine own_kgs own_ckE X0 hx hZ hown (host := "") (Or.inl (wd hw 41 rfl)) Via.refl e0 (SC.ext O0.2) (hb hby d7_0) (q := 3) rfl fun T1 X1 e1 => ?_
  refine own_st (T' := T1) (g' := (mkF m 6 #[iv cc] [])) (fun _ k_ => XS.ifNo X1.here hx rfl (hb hby d7_3) rfl ((if0 _ _).trans (feq (hcz : ¬ (cz = (0 : Int32)))).1) k_) ?_
  refine own_sp (q := 7) (S' := [(.int cc)]) (fun _ k_ => XS.iloadN X1.here hx rfl (hb hby d7_6) rfl  k_) ?_
  refine own_kcS own_ckE X1 hx hZ hown hml (y := own_m5) (wd hw 60 rfl) (wd hw 61 rfl) (wd hw 62 rfl) (wd hw 63 rfl) (by decide) (rm_can l Z a0 hw [] cc h0 n0 O0) (by decide) (by decide) (W := 0) (Nat.le_of_eq rfl) (argsL := [(.int cc)]) (rest := []) (lenOf pd__C_Z rfl) rfl rfl (hb hby d7_7) rfl e1 (by decide) (by decide) (c' := 0) (s' := 0) rfl rfl (q := 10) rfl fun _ T2 L2 X2 hQ2 => ?_
  obtain ⟨rfl, Nq2, eq2⟩ := hQ2
  have N2 := Fr.app N0 Nq2
  show own_E p e below s _ _ _ T2 (mkF m 10 _ [(.int (own_can cc))])
  refine own_sp (q := 13) (S' := []) (fun _ k_ => XS.ifNo X2.here hx rfl (hb hby d7_10) rfl ((if0 _ _).trans (feq ((own_canL hcc) : ¬ ((own_can cc) = (0 : Int32)))).1) k_) ?_
  obtain ⟨T3, h3, X3, e3, E3, A3, D3, -, st3⟩ := newO X2 hx hZ hown (wd hw 64 rfl) (wd hw 28 rfl) (wd hw 29 rfl) eq2 (g := (mkF m 13 #[iv cc] [])) rfl (hb hby d7_13) (by decide) (by decide)
  obtain ⟨b3, g3⟩ : ∃ z, z = h0.size := ⟨_, rfl⟩
  rw [← g3] at A3 D3 st3
  have fr3 : n0 ≤ b3 := Nat.le_trans (own_z O0) (Nat.le_of_eq g3.symm)
  have sz3 : h0.size ≤ b3 := Nat.le_trans (Keep.refl h0 []).1 (Nat.le_of_eq g3.symm)
  have F3_coder : Fld Z h3 b3 ks10 "coder" "B" (.int (0 : Int32)) := D3 (Or.inr (wd hw 54 rfl)) (ty := .byte) (by decide)
  have F3_value : Fld Z h3 b3 ks10 "value" "[B" .null := D3 (Or.inr (wd hw 56 rfl)) (ty := (.array .byte)) (by decide)
  refine own_sp (q := 16) (S' := [(.ref b3)]) st3 ?_
  clear st3
  refine own_sp (q := 17) (S' := [(.ref b3), (.ref b3)]) (fun _ k_ => XS.dup X3.here hx rfl (hb hby d7_16) rfl rfl k_) ?_
  refine own_sp (q := 18) (S' := [(.int cc), (.ref b3), (.ref b3)]) (fun _ k_ => XS.iloadN X3.here hx rfl (hb hby d7_17) rfl  k_) ?_
  have f4 := O0.ext E3
  refine own_kcS own_ckE X3 hx hZ hown hml (y := own_m6) (wd hw 65 rfl) (wd hw 66 rfl) (wd hw 62 rfl) (wd hw 67 rfl) (by decide) (rm_tb1 l Z a0 hw [] cc h3 n0 f4) (by decide) (by decide) (W := 2) (Nat.le_of_eq rfl) (argsL := [(.int cc)]) (rest := [(.ref b3), (.ref b3)]) (lenOf pd__C__B rfl) rfl rfl (hb hby d7_18) rfl e3 (by decide) (by decide) (c' := 2) (s' := 5) rfl rfl (q := 21) rfl fun _ T5 L5 X5 hQ5 => ?_
  obtain ⟨t5, rfl, Nq5, K5⟩ := hQ5
  have N5 := Fr.app N2 Nq5
  show own_E p e below s _ _ _ T5 (mkF m 21 _ [(.ref t5), (.ref b3), (.ref b3)])
  refine own_sp (q := 22) (S' := [(.int (0 : Int32)), (.ref t5), (.ref b3), (.ref b3)]) (fun _ k_ => XS.iconst X5.here hx rfl (hb hby d7_21) k_) ?_
  have f6 := A3.keep K5
  have f7 := F3_value.keep K5 nin0
  have f8 := F3_coder.keep K5 nin0
  have f9 := f4.keep K5 all0
  refine own_kcI own_ckE X5 hx hZ hown hml (y := own_m7) rfl (wd hw 68 rfl) (wd hw 69 rfl) (wd hw 29 rfl) (wd hw 70 rfl) (by decide) (a := b3) (rm_inb0 l Z a0 hw [] b3 t5 T5.heap n0 f9 f6 f7 f8 fr3) (by decide) (by decide) (W := 1) (Nat.le_of_eq rfl) (argsL := [(.ref t5), (.int (0 : Int32))]) (rest := [(.ref b3)]) (lenOf pd___BB_V rfl) rfl rfl (hb hby d7_22) rfl rfl (by decide) (by decide) (c' := 2) (s' := 5) rfl rfl (q := 25) rfl fun _ T10 L10 X10 hQ10 => ?_
  obtain ⟨rfl, Nq10, K10, fq10_0⟩ := hQ10
  have N10 := Fr.app N5 Nq10
  show own_E p e below s _ _ _ T10 (mkF m 25 _ [(.ref b3)])
  have f11 := (Keep.refl h0 []).ext E3
  have f12 := f11.trans K5 all0
  have f13 := f12.trans K10 (allS (Or.inr sz3) all0)
  exact own_retA X10 hx hret rfl rfl hlk (hb hby d7_25) (by decide) (by decide) ⟨b3, rfl, N10, f13, fq10_0, sz3⟩
theorem d13_0 : own_D bc13 0 (.aload_n 0) 1 := by decide +kernel
theorem d13_1 : own_D bc13 1 (.invokespecial 1) 3 := by decide +kernel
theorem d13_4 : own_D bc13 4 (.return_) 1 := by decide +kernel
theorem pn_3 : plainName "java/util/AbstractCollection" = true := by first | (simp [plainName, overriddenIn]; done) | decide +kernel
theorem ef_abci (m : MethodId) (x0 : Addr) : entryFrame m #[(.ref x0)] 1 = mkF m 0 #[rv x0] [] := rfl
def Q_abci (Z : State) (x : Addr) (h0 : Heap) (n0 : Nat) (v : Option Value) (h : Heap) (L : List Loc) : Prop := (v = none) ∧ (Fr n0 L) ∧ (h = h0)
theorem rm_abci (l : Launch) (Z : State) (a0 : Array Value) (hw : own_HW a0 Z) (ws : List Jvm.Cond) (x : Addr) (h0 : Heap) (n0 : Nat) (O0 : Old Z n0 h0) :
    own_MF l own_m9 (Jvm.Cond.code own_m9 bc13 1 none :: ws) (rm4 1 0 0 12) #[(.ref x)] Z h0 (Q_abci Z x h0 n0) := by
  refine own_met (own := "java/util/AbstractCollection") (nme := "<init>") rfl rfl (plainFor_of_name pn_3) ?_
  intro p e s m below meth c s₁ hx hby hml hown hnm X0 e0 hret hlk hZ
  have N0 := Fr.nil n0
  rw [ef_abci m x]
  refine own_st (T' := s₁) (g' := (mkF m 1 #[rv x] [(.ref x)])) (fun _ k_ => XS.aloadN X0.here hx rfl (hb hby d13_0) rfl rfl  k_) ?_
  obtain ⟨T1, X1, e1, st1⟩ := initO X0 hx hZ hown (wd hw 89 rfl) (wd hw 39 rfl) (wd hw 40 rfl) e0 (g := (mkF m 1 #[rv x] [(.ref x)])) rfl (by rw [hml]; rfl) rfl (hb hby d13_1) (by decide) (W := 0) (by show 2 * 0 + _ ≤ _; exact Nat.le_of_eq rfl) (by decide)
  refine own_sp (q := 4) (S' := []) st1 ?_
  clear st1
  exact own_retV X1 hx hret hlk (hb hby d13_4) (by decide) (by decide) ⟨rfl, N0, e1⟩
theorem d12_0 : own_D bc12 0 (.aload_n 0) 1 := by decide +kernel
theorem d12_1 : own_D bc12 1 (.invokespecial 1) 3 := by decide +kernel
theorem d12_4 : own_D bc12 4 (.aload_n 0) 1 := by decide +kernel
theorem d12_5 : own_D bc12 5 (.iconst 0) 1 := by decide +kernel
theorem d12_6 : own_D bc12 6 (.putfield 7) 3 := by decide +kernel
theorem d12_9 : own_D bc12 9 (.return_) 1 := by decide +kernel
theorem pd___V : parseMethodDescriptor "()V" = some ⟨[], none⟩ := by decide +kernel
theorem pn_4 : plainName "java/util/AbstractList" = true := by first | (simp [plainName, overriddenIn]; done) | decide +kernel
def Q_abli (Z : State) (a : Addr) (h0 : Heap) (n0 : Nat) (v : Option Value) (h : Heap) (L : List Loc) : Prop := (v = none) ∧ (Fr n0 L) ∧ (Keep h0 h [a]) ∧ (Exa Z h a ks6) ∧ (Fld Z h a ks6 ks20 ks8 .null) ∧ (Fld Z h a ks6 "size" "I" (.int (0 : Int32))) ∧ (Fld Z h a ks17 "modCount" "I" (.int (0 : Int32)))
theorem rm_abli (l : Launch) (Z : State) (a0 : Array Value) (hw : own_HW a0 Z) (ws : List Jvm.Cond) (a : Addr) (h0 : Heap) (n0 : Nat) (O0 : Old Z n0 h0) (P0 : Exa Z h0 a ks6) (P1 : Fld Z h0 a ks6 ks20 ks8 .null) (P2 : Fld Z h0 a ks6 "size" "I" (.int (0 : Int32))) (P3 : Fld Z h0 a ks17 "modCount" "I" (.int (0 : Int32))) (fa : n0 ≤ a) :
    own_MF l own_m10 (Jvm.Cond.code own_m10 bc12 1 none :: ws) (rm4 2 0 0 24) #[(.ref a)] Z h0 (Q_abli Z a h0 n0) := by
  refine own_met (own := ks17) (nme := "<init>") rfl rfl (plainFor_of_name pn_4) ?_
  intro p e s m below meth c s₁ hx hby hml hown hnm X0 e0 hret hlk hZ
  have N0 := Fr.nil n0
  rw [ef_abci m a]
  refine own_st (T' := s₁) (g' := (mkF m 1 #[rv a] [(.ref a)])) (fun _ k_ => XS.aloadN X0.here hx rfl (hb hby d12_0) rfl rfl  k_) ?_
  refine own_kcI own_ckE X0 hx hZ hown hml (y := own_m9) rfl (wd hw 83 rfl) (wd hw 84 rfl) (wd hw 87 rfl) (wd hw 88 rfl) (by decide) (a := a) (rm_abci l Z a0 hw [] a h0 n0 O0) (by decide) (by decide) (W := 0) (Nat.le_of_eq rfl) (argsL := []) (rest := []) (lenOf pd___V rfl) rfl rfl (hb hby d12_1) rfl e0 (by decide) (by decide) (c' := 0) (s' := 0) rfl rfl (q := 4) rfl fun _ T1 L1 X1 hQ1 => ?_
  obtain ⟨rfl, Nq1, eq1⟩ := hQ1
  have N1 := Fr.app N0 Nq1
  show own_E p e below s _ _ _ T1 (mkF m 4 _ [])
  refine own_sp (q := 5) (S' := [(.ref a)]) (fun _ k_ => XS.aloadN X1.here hx rfl (hb hby d12_4) rfl rfl  k_) ?_
  refine own_sp (q := 6) (S' := [(.int (0 : Int32)), (.ref a)]) (fun _ k_ => XS.iconst X1.here hx rfl (hb hby d12_5) k_) ?_
  refine own_kput own_ckE X1 hx hZ hown (host := "") (Or.inl (wd hw 90 rfl)) Via.refl eq1 P3 P0 (Or.inl (wd hw 91 rfl)) (wd hw 72 rfl) (ty := .int) (by decide) rfl rfl (hb hby d12_6) (q := 9) rfl fun T2 h2 X2 e2 W2 => ?_
  have Fw2 : Fld Z h2 a ks17 "modCount" "I" (.int (0 : Int32)) := Fld.same W2 P3
  have N2 := Fr.snoc X2 N1 fa
  have f3 := (Keep.refl h0 [a]).wr W2 (Or.inl (List.mem_of_getElem? (i := 0) rfl))
  have f4 := P0.wr W2
  have f5 := P1.other W2 (Or.inr (slot_ne (Or.inl (wd hw 94 rfl)) (Or.inl (wd hw 91 rfl)) (by decide) (t := (.array (.object ks2))) (t' := .int) (by decide) (by decide)))
  have f6 := P2.other W2 (Or.inr (slot_ne (Or.inl (wd hw 260 rfl)) (Or.inl (wd hw 91 rfl)) (by decide) (t := .int) (t' := .int) (by decide) (by decide)))
  exact own_retV X2 hx hret hlk (hb hby d12_9) (by decide) (by decide) (by rw [e2]; exact ⟨rfl, N2, f3, f4, f5, f6, Fw2⟩)
theorem d11_0 : own_D bc11 0 (.aload_n 0) 1 := by decide +kernel
theorem d11_1 : own_D bc11 1 (.invokespecial 1) 3 := by decide +kernel
theorem d11_4 : own_D bc11 4 (.aload_n 0) 1 := by decide +kernel
theorem d11_5 : own_D bc11 5 (.getstatic 39) 3 := by decide +kernel
theorem d11_8 : own_D bc11 8 (.putfield 9) 3 := by decide +kernel
theorem d11_11 : own_D bc11 11 (.return_) 1 := by decide +kernel
theorem pn_5 : plainName "java/util/ArrayList" = true := by first | (simp [plainName, overriddenIn]; done) | decide +kernel
def Q_ali (Z : State) (a : Addr) (dA : Addr) (h0 : Heap) (n0 : Nat) (v : Option Value) (h : Heap) (L : List Loc) : Prop := (v = none) ∧ (Fr n0 L) ∧ (Keep h0 h [a]) ∧ (Exa Z h a ks6) ∧ (Fld Z h a ks6 ks20 ks8 (.ref dA)) ∧ (Fld Z h a ks6 "size" "I" (.int (0 : Int32))) ∧ (Fld Z h a ks17 "modCount" "I" (.int (0 : Int32)))
theorem rm_ali (l : Launch) (Z : State) (a0 : Array Value) (hw : own_HW a0 Z) (ws : List Jvm.Cond) (a : Addr) (dA : Addr) (h0 : Heap) (n0 : Nat) (O0 : Old Z n0 h0) (P0 : Exa Z h0 a ks6) (P1 : Fld Z h0 a ks6 ks20 ks8 .null) (P2 : Fld Z h0 a ks6 "size" "I" (.int (0 : Int32))) (P3 : Fld Z h0 a ks17 "modCount" "I" (.int (0 : Int32))) (fa : n0 ≤ a) (SDe : Sta Z Z.heap ks6 "DEFAULTCAPACITY_EMPTY_ELEMENTDATA" ks8 (.ref dA)) :
    own_MF l own_m11 (Jvm.Cond.code own_m11 bc11 1 none :: ws) (rm4 3 0 0 36) #[(.ref a)] Z h0 (Q_ali Z a dA h0 n0) := by
  refine own_met (own := ks6) (nme := "<init>") rfl rfl (plainFor_of_name pn_5) ?_
  intro p e s m below meth c s₁ hx hby hml hown hnm X0 e0 hret hlk hZ
  have N0 := Fr.nil n0
  rw [ef_abci m a]
  refine own_st (T' := s₁) (g' := (mkF m 1 #[rv a] [(.ref a)])) (fun _ k_ => XS.aloadN X0.here hx rfl (hb hby d11_0) rfl rfl  k_) ?_
  refine own_kcI own_ckE X0 hx hZ hown hml (y := own_m10) rfl (wd hw 77 rfl) (wd hw 78 rfl) (wd hw 81 rfl) (wd hw 82 rfl) (by decide) (a := a) (rm_abli l Z a0 hw [] a h0 n0 O0 P0 P1 P2 P3 fa) (by decide) (by decide) (W := 0) (Nat.le_of_eq rfl) (argsL := []) (rest := []) (lenOf pd___V rfl) rfl rfl (hb hby d11_1) rfl e0 (by decide) (by decide) (c' := 0) (s' := 0) rfl rfl (q := 4) rfl fun _ T1 L1 X1 hQ1 => ?_
  obtain ⟨rfl, Nq1, K1, fq1_0, fq1_1, fq1_2, fq1_3⟩ := hQ1
  have N1 := Fr.app N0 Nq1
  show own_E p e below s _ _ _ T1 (mkF m 4 _ [])
  refine own_sp (q := 5) (S' := [(.ref a)]) (fun _ k_ => XS.aloadN X1.here hx rfl (hb hby d11_4) rfl rfl  k_) ?_
  have f2 := O0.keep K1 (allS fa all0)
  refine own_kgs own_ckE X1 hx hZ hown (host := "") (Or.inl (wd hw 92 rfl)) Via.refl rfl (SDe.ext f2.2) (hb hby d11_5) (q := 8) rfl fun T3 X3 e3 => ?_
  refine own_kput own_ckE X3 hx hZ hown (host := "") (Or.inl (wd hw 93 rfl)) Via.refl e3 fq1_1 fq1_0 (Or.inl (wd hw 94 rfl)) (wd hw 72 rfl) (ty := (.array (.object ks2))) (by decide) rfl rfl (hb hby d11_8) (q := 11) rfl fun T4 h4 X4 e4 W4 => ?_
  have Fw4 : Fld Z h4 a ks6 ks20 ks8 (.ref dA) := Fld.same W4 fq1_1
  have N4 := Fr.snoc X4 N1 fa
  have f5 := (Keep.refl h0 [a]).trans K1 (allS (Or.inl (List.mem_of_getElem? (i := 0) rfl)) all0)
  have f6 := f5.wr W4 (Or.inl (List.mem_of_getElem? (i := 0) rfl))
  have f7 := fq1_0.wr W4
  have f8 := fq1_2.other W4 (Or.inr (slot_ne (Or.inl (wd hw 260 rfl)) (Or.inl (wd hw 94 rfl)) (by decide) (t := .int) (t' := (.array (.object ks2))) (by decide) (by decide)))
  have f9 := fq1_3.other W4 (Or.inr (slot_ne (Or.inl (wd hw 91 rfl)) (Or.inl (wd hw 94 rfl)) (by decide) (t := .int) (t' := (.array (.object ks2))) (by decide) (by decide)))
  exact own_retV X4 hx hret hlk (hb hby d11_11) (by decide) (by decide) (by rw [e4]; exact ⟨rfl, N4, f6, f7, Fw4, f8, f9⟩)
theorem d41_0 : own_D bc41 0 (.iload_n 0) 1 := by decide +kernel
theorem d41_1 : own_D bc41 1 (.iload_n 1) 1 := by decide +kernel
theorem d41_2 : own_D bc41 2 (.if_icmp .lt 7) 3 := by decide +kernel
theorem d41_5 : own_D bc41 5 (.iload_n 0) 1 := by decide +kernel
theorem d41_6 : own_D bc41 6 (.goto 4) 3 := by decide +kernel
theorem d41_10 : own_D bc41 10 (.ireturn) 1 := by decide +kernel
theorem ef_max (m : MethodId) (x0 : Int32) (x1 : Int32) : entryFrame m #[(.int x0), (.int x1)] 2 = mkF m 0 #[iv x0, iv x1] [] := rfl
def Q_max (Z : State) (xx : Int32) (yy : Int32) (h0 : Heap) (n0 : Nat) (v : Option Value) (h : Heap) (L : List Loc) : Prop := (v = some (.int xx)) ∧ (Fr n0 L) ∧ (h = h0)
theorem rm_max (l : Launch) (Z : State) (a0 : Array Value) (hw : own_HW a0 Z) (ws : List Jvm.Cond) (xx : Int32) (yy : Int32) (h0 : Heap) (n0 : Nat) (O0 : Old Z n0 h0) (hmax : ¬ xx < yy) :
    own_MF l own_m12 (Jvm.Cond.code own_m12 bc41 2 (some .int) :: ws) (rm4 0 0 0 0) #[(.int xx), (.int yy)] Z h0 (Q_max Z xx yy h0 n0) := by
  refine own_met (own := "java/lang/Math") (nme := "max") rfl rfl (Jvm.Free.JP.mathPlain rfl (by decide +kernel)) ?_
  intro p e s m below meth c s₁ hx hby hml hown hnm X0 e0 hret hlk hZ
  have N0 := Fr.nil n0
  rw [ef_max m xx yy]
  refine own_st (T' := s₁) (g' := (mkF m 1 #[iv xx, iv yy] [(.int xx)])) (fun _ k_ => XS.iloadN X0.here hx rfl (hb hby d41_0) rfl  k_) ?_
  refine own_sp (q := 2) (S' := [(.int yy), (.int xx)]) (fun _ k_ => XS.iloadN X0.here hx rfl (hb hby d41_1) rfl  k_) ?_
  refine own_sp (q := 5) (S' := []) (fun _ k_ => XS.icmpNo X0.here hx rfl (hb hby d41_2) rfl (flt (hmax : ¬ (xx < yy))).1 k_) ?_
  refine own_sp (q := 6) (S' := [(.int xx)]) (fun _ k_ => XS.iloadN X0.here hx rfl (hb hby d41_5) rfl  k_) ?_
  refine own_sp (q := 10) (S' := [(.int xx)]) (fun _ k_ => XS.goto X0.here hx rfl (pc0 := 6) (pc' := 10) rfl (hb hby d41_6) (by decide) (by decide) k_) ?_
  exact own_retI X0 hx hret hlk (hb hby d41_10) (by decide) (by decide) ⟨rfl, N0, e0⟩
theorem d40_0 : own_D bc40 0 (.aload_n 0) 1 := by decide +kernel
theorem d40_1 : own_D bc40 1 (.getfield 9) 3 := by decide +kernel
theorem d40_4 : own_D bc40 4 (.arraylength) 1 := by decide +kernel
theorem d40_5 : own_D bc40 5 (.istore_n 2) 1 := by decide +kernel
theorem d40_6 : own_D bc40 6 (.iload_n 2) 1 := by decide +kernel
theorem d40_7 : own_D bc40 7 (.ifCond .gt 13) 3 := by decide +kernel
theorem d40_10 : own_D bc40 10 (.aload_n 0) 1 := by decide +kernel
theorem d40_11 : own_D bc40 11 (.getfield 9) 3 := by decide +kernel
theorem d40_14 : own_D bc40 14 (.getstatic 39) 3 := by decide +kernel
theorem d40_17 : own_D bc40 17 (.if_acmp .eq 28) 3 := by decide +kernel
theorem d40_45 : own_D bc40 45 (.aload_n 0) 1 := by decide +kernel
theorem d40_46 : own_D bc40 46 (.bipush 10) 2 := by decide +kernel
theorem d40_48 : own_D bc40 48 (.iload_n 1) 1 := by decide +kernel
theorem d40_49 : own_D bc40 49 (.invokestatic 79) 3 := by decide +kernel
theorem d40_52 : own_D bc40 52 (.anewarray 7) 3 := by decide +kernel
theorem d40_55 : own_D bc40 55 (.dup_x1) 1 := by decide +kernel
theorem d40_56 : own_D bc40 56 (.putfield 9) 3 := by decide +kernel
theorem d40_59 : own_D bc40 59 (.areturn) 1 := by decide +kernel
theorem pd__II_I : parseMethodDescriptor "(II)I" = some ⟨[.int, .int], some .int⟩ := by decide +kernel
theorem ef_grw1 (m : MethodId) (x0 : Addr) (x1 : Int32) : entryFrame m #[(.ref x0), (.int x1)] 4 = mkF m 0 #[rv x0, iv x1, .unset, .unset] [] := rfl
def Q_grw1 (Z : State) (a : Addr) (mc : Int32) (dA : Addr) (clD : Cell) (kO : ClassId) (h0 : Heap) (n0 : Nat) (v : Option Value) (h : Heap) (L : List Loc) : Prop := ∃ (t : Addr), (v = some (.ref t)) ∧ (Fr n0 L) ∧ (Keep h0 h [a]) ∧ (Exa Z h a ks6) ∧ (Fld Z h a ks6 ks20 ks8 (.ref t)) ∧ (Fld Z h a ks6 "size" "I" (.int (0 : Int32))) ∧ (Fld Z h a ks17 "modCount" "I" (.int mc)) ∧ (Arv Z h t kO (.object ks2) (10 : Int32) [.null, .null, .null, .null, .null, .null, .null, .null, .null, .null] .null) ∧ (h0.size ≤ t)
theorem rm_grw1 (l : Launch) (Z : State) (a0 : Array Value) (hw : own_HW a0 Z) (ws : List Jvm.Cond) (a : Addr) (mc : Int32) (dA : Addr) (clD : Cell) (kO : ClassId) (h0 : Heap) (n0 : Nat) (O0 : Old Z n0 h0) (P0 : Exa Z h0 a ks6) (P1 : Fld Z h0 a ks6 ks20 ks8 (.ref dA)) (P2 : Fld Z h0 a ks6 "size" "I" (.int (0 : Int32))) (P3 : Fld Z h0 a ks17 "modCount" "I" (.int mc)) (fa : n0 ≤ a) (SDe : Sta Z Z.heap ks6 "DEFAULTCAPACITY_EMPTY_ELEMENTDATA" ks8 (.ref dA)) (AD : Arr Z Z.heap dA clD (.object ks2)) (LD : clD.slots.size.toInt32 = (0 : Int32)) (OV : Ovr Z kO ks2) (FC : Z.vm.findClass ks8 = some kO) :
    own_MF l own_m13 (Jvm.Cond.code own_m13 bc40 4 (some (.array (.object ks2))) :: ws) (rm4 1 1 10 14) #[(.ref a), (.int (1 : Int32))] Z h0 (Q_grw1 Z a mc dA clD kO h0 n0) := by
  refine own_met (own := ks6) (nme := "grow") rfl rfl (plainFor_of_name pn_5) ?_
  intro p e s m below meth c s₁ hx hby hml hown hnm X0 e0 hret hlk hZ
  have N0 := Fr.nil n0
  rw [ef_grw1 m a (1 : Int32)]
  refine own_st (T' := s₁) (g' := (mkF m 1 #[rv a, iv (1 : Int32), .unset, .unset] [(.ref a)])) (fun _ k_ => XS.aloadN X0.here hx rfl (hb hby d40_0) rfl rfl  k_) ?_
  refine own_kget own_ckE X0 hx hZ hown (host := "") (Or.inl (wd hw 93 rfl)) Via.refl e0 P1 (hb hby d40_1) (q := 4) rfl fun T1 X1 e1 => ?_
  have Ar2 := AD.ext O0.2
  refine own_sp (q := 5) (S' := [(.int (0 : Int32))]) (fun t_ k_ => X1.arraylength hx (by rw [e1]; exact Ar2.1) (State.isArrayOf_alike hZ.alike Ar2.2.1) (g := (mkF m 4 #[rv a, iv (1 : Int32), .unset, .unset] [(.ref dA)])) rfl rfl (hb hby d40_4) _ (by rw [LD]; exact k_)) ?_
  refine own_st (T' := T1) (g' := (mkF m 6 #[rv a, iv (1 : Int32), iv (0 : Int32), .unset] [])) (fun _ k_ => XS.istoreN X1.here hx rfl (hb hby d40_5) rfl (l' := #[rv a, iv (1 : Int32), iv (0 : Int32), .unset]) rfl k_) ?_
  refine own_sp (q := 7) (S' := [(.int (0 : Int32))]) (fun _ k_ => XS.iloadN X1.here hx rfl (hb hby d40_6) rfl  k_) ?_
  refine own_sp (q := 10) (S' := []) (fun _ k_ => XS.ifNo X1.here hx rfl (hb hby d40_7) rfl ((if0 _ _).trans (flt (by decide : ¬ ((0 : Int32) < (0 : Int32)))).2.2.1) k_) ?_
  refine own_sp (q := 11) (S' := [(.ref a)]) (fun _ k_ => XS.aloadN X1.here hx rfl (hb hby d40_10) rfl rfl  k_) ?_
  refine own_kget own_ckE X1 hx hZ hown (host := "") (Or.inl (wd hw 93 rfl)) Via.refl e1 P1 (hb hby d40_11) (q := 14) rfl fun T3 X3 e3 => ?_
  refine own_kgs own_ckE X3 hx hZ hown (host := "") (Or.inl (wd hw 92 rfl)) Via.refl e3 (SDe.ext O0.2) (hb hby d40_14) (q := 17) rfl fun T4 X4 e4 => ?_
  refine own_sp (q := 45) (S' := []) (fun _ k_ => Jvm.RoadKit.acmp (g := (mkF m 17 #[rv a, iv (1 : Int32), iv (0 : Int32), .unset] [(.ref dA), (.ref dA)])) X4 hx rfl rfl rfl (pc0 := 17) (pc' := 45) (same := true) rfl (hb hby d40_17) rfl (decide_eq_true rfl) (by decide) (by decide) k_) ?_
  refine own_sp (q := 46) (S' := [(.ref a)]) (fun _ k_ => XS.aloadN X4.here hx rfl (hb hby d40_45) rfl rfl  k_) ?_
  refine own_sp (q := 48) (S' := [(.int (10 : Int32)), (.ref a)]) (fun _ k_ => XS.bipush X4.here hx rfl (hb hby d40_46) k_) ?_
  refine own_sp (q := 49) (S' := [(.int (1 : Int32)), (.int (10 : Int32)), (.ref a)]) (fun _ k_ => XS.iloadN X4.here hx rfl (hb hby d40_48) rfl  k_) ?_
  refine own_kcS own_ckE X4 hx hZ hown hml (y := own_m12) (wd hw 276 rfl) (wd hw 277 rfl) (wd hw 278 rfl) (wd hw 279 rfl) (by decide) (rm_max l Z a0 hw [] (10 : Int32) (1 : Int32) h0 n0 O0 (by decide)) (by decide) (by decide) (W := 1) (Nat.le_of_eq rfl) (argsL := [(.int (10 : Int32)), (.int (1 : Int32))]) (rest := [(.ref a)]) (lenOf pd__II_I rfl) rfl rfl (hb hby d40_49) rfl e4 (by decide) (by decide) (c' := 0) (s' := 0) rfl rfl (q := 52) rfl fun _ T5 L5 X5 hQ5 => ?_
  obtain ⟨rfl, Nq5, eq5⟩ := hQ5
  have N5 := Fr.app N0 Nq5
  show own_E p e below s _ _ _ T5 (mkF m 52 _ [(.int (10 : Int32)), (.ref a)])
  obtain ⟨T6, h6, k6, X6, e6, E6, A6, EX6, O6, st6⟩ := newRE X5 hx hZ hown (wd hw 280 rfl) (wd hw 281 rfl) eq5 (g := (mkF m 52 #[rv a, iv (1 : Int32), iv (0 : Int32), .unset] [(.int (10 : Int32)), (.ref a)])) rfl (hb hby d40_52) rfl (by decide) (cap := 10) (by decide) (by decide) (by decide) (by decide) (ad := ks8) (by decide)
  obtain rfl : kO = k6 := own_kk EX6 A6 FC
  clear EX6 O6
  obtain ⟨b6, g6⟩ : ∃ z, z = h0.size := ⟨_, rfl⟩
  rw [← g6] at A6 st6
  have fr6 : n0 ≤ b6 := Nat.le_trans (own_z O0) (Nat.le_of_eq g6.symm)
  have sz6 : h0.size ≤ b6 := Nat.le_trans (Keep.refl h0 [a]).1 (Nat.le_of_eq g6.symm)
  have V6 : Arv Z h6 b6 kO (.object ks2) (10 : Int32) [.null, .null, .null, .null, .null, .null, .null, .null, .null, .null] .null := (Arv.new A6 (by decide)).pad (pad_rep [] .null 10)
  refine own_sp (q := 55) (S' := [(.ref b6), (.ref a)]) st6 ?_
  clear st6
  refine own_sp (q := 56) (S' := [(.ref b6), (.ref a), (.ref b6)]) (fun _ k_ => XS.dupX1 X6.here hx rfl (hb hby d40_55) rfl rfl rfl k_) ?_
  have f7 := P0.ext E6
  have f8 := P1.ext E6
  refine own_kput own_ckE X6 hx hZ hown (host := "") (Or.inl (wd hw 93 rfl)) Via.refl e6 f8 f7 (Or.inl (wd hw 94 rfl)) (wd hw 72 rfl) (ty := (.array (.object ks2))) (by decide) rfl rfl (hb hby d40_56) (q := 59) rfl fun T9 h9 X9 e9 W9 => ?_
  have Fw9 : Fld Z h9 a ks6 ks20 ks8 (.ref b6) := Fld.same W9 f8
  have N9 := Fr.snoc X9 N5 fa
  have f10 := (Keep.refl h0 [a]).ext E6
  have f11 := f10.wr W9 (Or.inl (List.mem_of_getElem? (i := 0) rfl))
  have f12 := f7.wr W9
  have f13 := P2.ext E6
  have f14 := f13.other W9 (Or.inr (slot_ne (Or.inl (wd hw 260 rfl)) (Or.inl (wd hw 94 rfl)) (by decide) (t := .int) (t' := (.array (.object ks2))) (by decide) (by decide)))
  have f15 := P3.ext E6
  have f16 := f15.other W9 (Or.inr (slot_ne (Or.inl (wd hw 91 rfl)) (Or.inl (wd hw 94 rfl)) (by decide) (t := .int) (t' := (.array (.object ks2))) (by decide) (by decide)))
  have ne17 : a ≠ b6 := Nat.ne_of_lt (Nat.lt_of_lt_of_le P0.lt (Nat.le_of_eq g6.symm))
  have f18 := V6.other W9 (Ne.symm ne17)
  exact own_retA X9 hx hret rfl rfl hlk (hb hby d40_59) (by decide) (by decide) (by rw [e9]; exact ⟨b6, rfl, N9, f11, f12, Fw9, f14, f16, f18, sz6⟩)
theorem d39_0 : own_D bc39 0 (.aload_n 0) 1 := by decide +kernel
theorem d39_1 : own_D bc39 1 (.aload_n 0) 1 := by decide +kernel
theorem d39_2 : own_D bc39 2 (.getfield 48) 3 := by decide +kernel
theorem d39_5 : own_D bc39 5 (.iconst 1) 1 := by decide +kernel
theorem d39_6 : own_D bc39 6 (.iadd) 1 := by decide +kernel
theorem d39_7 : own_D bc39 7 (.invokevirtual 69) 3 := by decide +kernel
theorem d39_10 : own_D bc39 10 (.areturn) 1 := by decide +kernel
theorem pd__I__Ljava_lang_Object_ : parseMethodDescriptor "(I)[Ljava/lang/Object;" = some ⟨[.int], some (.array (.object "java/lang/Object"))⟩ := by decide +kernel
def Q_grw0 (Z : State) (a : Addr) (mc : Int32) (dA : Addr) (clD : Cell) (kO : ClassId) (h0 : Heap) (n0 : Nat) (v : Option Value) (h : Heap) (L : List Loc) : Prop := ∃ (t : Addr), (v = some (.ref t)) ∧ (Fr n0 L) ∧ (Keep h0 h [a]) ∧ (Exa Z h a ks6) ∧ (Fld Z h a ks6 ks20 ks8 (.ref t)) ∧ (Fld Z h a ks6 "size" "I" (.int (0 : Int32))) ∧ (Fld Z h a ks17 "modCount" "I" (.int mc)) ∧ (Arv Z h t kO (.object ks2) (10 : Int32) [.null, .null, .null, .null, .null, .null, .null, .null, .null, .null] .null) ∧ (h0.size ≤ t)
theorem rm_grw0 (l : Launch) (Z : State) (a0 : Array Value) (hw : own_HW a0 Z) (ws : List Jvm.Cond) (a : Addr) (mc : Int32) (dA : Addr) (clD : Cell) (kO : ClassId) (h0 : Heap) (n0 : Nat) (O0 : Old Z n0 h0) (P0 : Exa Z h0 a ks6) (P1 : Fld Z h0 a ks6 ks20 ks8 (.ref dA)) (P2 : Fld Z h0 a ks6 "size" "I" (.int (0 : Int32))) (P3 : Fld Z h0 a ks17 "modCount" "I" (.int mc)) (fa : n0 ≤ a) (SDe : Sta Z Z.heap ks6 "DEFAULTCAPACITY_EMPTY_ELEMENTDATA" ks8 (.ref dA)) (AD : Arr Z Z.heap dA clD (.object ks2)) (LD : clD.slots.size.toInt32 = (0 : Int32)) (OV : Ovr Z kO ks2) (FC : Z.vm.findClass ks8 = some kO) :
    own_MF l own_m14 (Jvm.Cond.code own_m14 bc39 1 (some (.array (.object ks2))) :: ws) (rm4 2 1 10 29) #[(.ref a)] Z h0 (Q_grw0 Z a mc dA clD kO h0 n0) := by
  refine own_met (own := ks6) (nme := "grow") rfl rfl (plainFor_of_name pn_5) ?_
  intro p e s m below meth c s₁ hx hby hml hown hnm X0 e0 hret hlk hZ
  have N0 := Fr.nil n0
  rw [ef_abci m a]
  refine own_st (T' := s₁) (g' := (mkF m 1 #[rv a] [(.ref a)])) (fun _ k_ => XS.aloadN X0.here hx rfl (hb hby d39_0) rfl rfl  k_) ?_
  refine own_sp (q := 2) (S' := [(.ref a), (.ref a)]) (fun _ k_ => XS.aloadN X0.here hx rfl (hb hby d39_1) rfl rfl  k_) ?_
  refine own_kget own_ckE X0 hx hZ hown (host := "") (Or.inl (wd hw 259 rfl)) Via.refl e0 P2 (hb hby d39_2) (q := 5) rfl fun T1 X1 e1 => ?_
  refine own_sp (q := 6) (S' := [(.int (1 : Int32)), (.int (0 : Int32)), (.ref a)]) (fun _ k_ => XS.iconst X1.here hx rfl (hb hby d39_5) k_) ?_
  refine own_sp (q := 7) (S' := [(.int (1 : Int32)), (.ref a)]) (fun _ k_ => XS.iadd X1.here hx rfl (hb hby d39_6) rfl k_) ?_
  refine own_kcP own_ckE X1 hx hZ hown hml (y := own_m13) (wd hw 271 rfl) (wd hw 272 rfl) (wd hw 274 rfl) (wd hw 273 rfl) (wd hw 73 rfl) (wd hw 275 rfl) (by decide) P0 (rm_grw1 l Z a0 hw [] a mc dA clD kO h0 n0 O0 P0 P1 P2 P3 fa SDe AD LD OV FC) (by decide) (by decide) (W := 0) (Nat.le_of_eq rfl) (argsL := [(.int (1 : Int32))]) (rest := []) (lenOf pd__I__Ljava_lang_Object_ rfl) rfl rfl (hb hby d39_7) rfl e1 (by decide) (by decide) (c' := 1) (s' := 10) rfl rfl (q := 10) rfl fun _ T2 L2 X2 hQ2 => ?_
  obtain ⟨t2, rfl, Nq2, K2, fq2_0, fq2_1, fq2_2, fq2_3, fq2_4, xq2_fresh_t⟩ := hQ2
  have N2 := Fr.app N0 Nq2
  show own_E p e below s _ _ _ T2 (mkF m 10 _ [(.ref t2)])
  have f3 := (Keep.refl h0 [a]).trans K2 (allS (Or.inl (List.mem_of_getElem? (i := 0) rfl)) all0)
  exact own_retA X2 hx hret rfl rfl hlk (hb hby d39_10) (by decide) (by decide) ⟨t2, rfl, N2, f3, fq2_0, fq2_1, fq2_2, fq2_3, fq2_4, (Nat.le_trans (Keep.refl h0 [a]).1 xq2_fresh_t)⟩
theorem d38_0 : own_D bc38 0 (.iload_n 3) 1 := by decide +kernel
theorem d38_1 : own_D bc38 1 (.aload_n 2) 1 := by decide +kernel
theorem d38_2 : own_D bc38 2 (.arraylength) 1 := by decide +kernel
theorem d38_3 : own_D bc38 3 (.if_icmp .ne 8) 3 := by decide +kernel
theorem d38_6 : own_D bc38 6 (.aload_n 0) 1 := by decide +kernel
theorem d38_7 : own_D bc38 7 (.invokevirtual 129) 3 := by decide +kernel
theorem d38_10 : own_D bc38 10 (.astore_n 2) 1 := by decide +kernel
theorem d38_11 : own_D bc38 11 (.aload_n 2) 1 := by decide +kernel
theorem d38_12 : own_D bc38 12 (.iload_n 3) 1 := by decide +kernel
theorem d38_13 : own_D bc38 13 (.aload_n 1) 1 := by decide +kernel
theorem d38_14 : own_D bc38 14 (.aastore) 1 := by decide +kernel
theorem d38_15 : own_D bc38 15 (.aload_n 0) 1 := by decide +kernel
theorem d38_16 : own_D bc38 16 (.iload_n 3) 1 := by decide +kernel
theorem d38_17 : own_D bc38 17 (.iconst 1) 1 := by decide +kernel
theorem d38_18 : own_D bc38 18 (.iadd) 1 := by decide +kernel
theorem d38_19 : own_D bc38 19 (.putfield 48) 3 := by decide +kernel
theorem d38_22 : own_D bc38 22 (.return_) 1 := by decide +kernel
theorem pd____Ljava_lang_Object_ : parseMethodDescriptor "()[Ljava/lang/Object;" = some ⟨[], some (.array (.object "java/lang/Object"))⟩ := by decide +kernel
theorem ef_ad3_0 (m : MethodId) (x0 : Addr) (x1 : Addr) (x2 : Addr) (x3 : Int32) : entryFrame m #[(.ref x0), (.ref x1), (.ref x2), (.int x3)] 4 = mkF m 0 #[rv x0, rv x1, rv x2, iv x3] [] := by simp [entryFrame, mkF, argsToLocals, Value.category]
def Q_ad3_0 (Z : State) (a : Addr) (el : Addr) (mc : Int32) (dA : Addr) (clD : Cell) (kO : ClassId) (h0 : Heap) (n0 : Nat) (v : Option Value) (h : Heap) (L : List Loc) : Prop := ∃ (t : Addr), (v = none) ∧ (Fr n0 L) ∧ (Keep h0 h [a]) ∧ (Exa Z h a ks6) ∧ (Fld Z h a ks6 ks20 ks8 (.ref t)) ∧ (Fld Z h a ks6 "size" "I" (.int (1 : Int32))) ∧ (Fld Z h a ks17 "modCount" "I" (.int mc)) ∧ (Arv Z h t kO (.object ks2) (10 : Int32) [(.ref el), .null, .null, .null, .null, .null, .null, .null, .null, .null] .null) ∧ (h0.size ≤ t)
theorem rm_ad3_0 (l : Launch) (Z : State) (a0 : Array Value) (hw : own_HW a0 Z) (ws : List Jvm.Cond) (a : Addr) (el : Addr) (mc : Int32) (dA : Addr) (clD : Cell) (kO : ClassId) (h0 : Heap) (n0 : Nat) (O0 : Old Z n0 h0) (P0 : Exa Z h0 a ks6) (P1 : Fld Z h0 a ks6 ks20 ks8 (.ref dA)) (P2 : Fld Z h0 a ks6 "size" "I" (.int (0 : Int32))) (P3 : Fld Z h0 a ks17 "modCount" "I" (.int mc)) (fa : n0 ≤ a) (SDe : Sta Z Z.heap ks6 "DEFAULTCAPACITY_EMPTY_ELEMENTDATA" ks8 (.ref dA)) (AD : Arr Z Z.heap dA clD (.object ks2)) (LD : clD.slots.size.toInt32 = (0 : Int32)) (OV : Ovr Z kO ks2) (FC : Z.vm.findClass ks8 = some kO) (I_el : Ins Z h0 el ks2 true) :
    own_MF l own_m15 (Jvm.Cond.code own_m15 bc38 4 none :: ws) (rm4 3 1 10 41) #[(.ref a), (.ref el), (.ref dA), (.int (0 : Int32))] Z h0 (Q_ad3_0 Z a el mc dA clD kO h0 n0) := by
  refine own_met (own := ks6) (nme := "add") rfl rfl (plainFor_of_name pn_5) ?_
  intro p e s m below meth c s₁ hx hby hml hown hnm X0 e0 hret hlk hZ
  have N0 := Fr.nil n0
  rw [ef_ad3_0 m a el dA (0 : Int32)]
  refine own_st (T' := s₁) (g' := (mkF m 1 #[rv a, rv el, rv dA, iv (0 : Int32)] [(.int (0 : Int32))])) (fun _ k_ => XS.iloadN X0.here hx rfl (hb hby d38_0) rfl  k_) ?_
  refine own_sp (q := 2) (S' := [(.ref dA), (.int (0 : Int32))]) (fun _ k_ => XS.aloadN X0.here hx rfl (hb hby d38_1) rfl rfl  k_) ?_
  have Ar1 := AD.ext O0.2
  refine own_sp (q := 3) (S' := [(.int (0 : Int32)), (.int (0 : Int32))]) (fun t_ k_ => X0.arraylength hx (by rw [e0]; exact Ar1.1) (State.isArrayOf_alike hZ.alike Ar1.2.1) (g := (mkF m 2 #[rv a, rv el, rv dA, iv (0 : Int32)] [(.ref dA), (.int (0 : Int32))])) rfl rfl (hb hby d38_2) _ (by rw [LD]; exact k_)) ?_
  refine own_sp (q := 6) (S' := []) (fun _ k_ => XS.icmpNo X0.here hx rfl (hb hby d38_3) rfl (teq (rfl : (0 : Int32) = (0 : Int32))).2 k_) ?_
  refine own_sp (q := 7) (S' := [(.ref a)]) (fun _ k_ => XS.aloadN X0.here hx rfl (hb hby d38_6) rfl rfl  k_) ?_
  refine own_kcP own_ckE X0 hx hZ hown hml (y := own_m14) (wd hw 266 rfl) (wd hw 267 rfl) (wd hw 269 rfl) (wd hw 268 rfl) (wd hw 73 rfl) (wd hw 270 rfl) (by decide) P0 (rm_grw0 l Z a0 hw [] a mc dA clD kO h0 n0 O0 P0 P1 P2 P3 fa SDe AD LD OV FC) (by decide) (by decide) (W := 0) (Nat.le_of_eq rfl) (argsL := []) (rest := []) (lenOf pd____Ljava_lang_Object_ rfl) rfl rfl (hb hby d38_7) rfl e0 (by decide) (by decide) (c' := 1) (s' := 10) rfl rfl (q := 10) rfl fun _ T2 L2 X2 hQ2 => ?_
  obtain ⟨t2, rfl, Nq2, K2, fq2_0, fq2_1, fq2_2, fq2_3, fq2_4, xq2_fresh_t⟩ := hQ2
  have N2 := Fr.app N0 Nq2
  show own_E p e below s _ _ _ T2 (mkF m 10 _ [(.ref t2)])
  refine own_st (T' := T2) (g' := (mkF m 11 #[rv a, rv el, rv t2, iv (0 : Int32)] [])) (fun _ k_ => XS.astoreN X2.here hx rfl (hb hby d38_10) rfl rfl (l' := #[rv a, rv el, rv t2, iv (0 : Int32)]) rfl k_) ?_
  refine own_sp (q := 12) (S' := [(.ref t2)]) (fun _ k_ => XS.aloadN X2.here hx rfl (hb hby d38_11) rfl rfl  k_) ?_
  refine own_sp (q := 13) (S' := [(.int (0 : Int32)), (.ref t2)]) (fun _ k_ => XS.iloadN X2.here hx rfl (hb hby d38_12) rfl  k_) ?_
  refine own_sp (q := 14) (S' := [(.ref el), (.int (0 : Int32)), (.ref t2)]) (fun _ k_ => XS.aloadN X2.here hx rfl (hb hby d38_13) rfl rfl  k_) ?_
  obtain ⟨cl3, Ar3, q3, S3, N3, H3, G3⟩ := id fq2_4
  have hin3 : ¬ ((0 : Int32) < 0 ∨ cl3.slots.size ≤ ((0 : Int32)).toNatClampNeg) := inb_of S3 ⟨by decide, by decide⟩
  have f4 := own_insK I_el K2
  obtain ⟨T5, h5, X5, e5, W5, st5⟩ := stR X2 hx hZ rfl Ar3 (j := (0 : Int32)) hin3 rfl (Sto.of Ar3 (q3 ▸ OV) f4) (g := (mkF m 14 #[rv a, rv el, rv t2, iv (0 : Int32)] [(.ref el), (.int (0 : Int32)), (.ref t2)])) rfl rfl (hb hby d38_14)
  have V5 : Arv Z h5 t2 kO (.object ks2) (10 : Int32) [(.ref el), .null, .null, .null, .null, .null, .null, .null, .null, .null] .null := Arv.set Ar3 q3 S3 N3 H3 G3 rfl W5 0 rfl (Nat.le_of_ble_eq_true rfl)
  have Nx5 := Fr.snoc X5 N2 (Nat.le_trans (own_z O0) xq2_fresh_t)
  refine own_sp (q := 15) (S' := []) st5 ?_
  clear hin3 G3 H3 N3 S3 q3 Ar3 cl3 st5
  refine own_sp (q := 16) (S' := [(.ref a)]) (fun _ k_ => XS.aloadN X5.here hx rfl (hb hby d38_15) rfl rfl  k_) ?_
  refine own_sp (q := 17) (S' := [(.int (0 : Int32)), (.ref a)]) (fun _ k_ => XS.iloadN X5.here hx rfl (hb hby d38_16) rfl  k_) ?_
  refine own_sp (q := 18) (S' := [(.int (1 : Int32)), (.int (0 : Int32)), (.ref a)]) (fun _ k_ => XS.iconst X5.here hx rfl (hb hby d38_17) k_) ?_
  refine own_sp (q := 19) (S' := [(.int (1 : Int32)), (.ref a)]) (fun _ k_ => XS.iadd X5.here hx rfl (hb hby d38_18) rfl k_) ?_
  have f6 := fq2_0.wr W5
  have ne7 : a ≠ t2 := Nat.ne_of_lt (Nat.lt_of_lt_of_le P0.lt xq2_fresh_t)
  have f8 := fq2_2.other W5 (Or.inl ne7)
  refine own_kput own_ckE X5 hx hZ hown (host := "") (Or.inl (wd hw 259 rfl)) Via.refl e5 f8 f6 (Or.inl (wd hw 260 rfl)) (wd hw 72 rfl) (ty := .int) (by decide) rfl rfl (hb hby d38_19) (q := 22) rfl fun T9 h9 X9 e9 W9 => ?_
  have Fw9 : Fld Z h9 a ks6 "size" "I" (.int (1 : Int32)) := Fld.same W9 f8
  have N9 := Fr.snoc X9 Nx5 fa
  have f10 := (Keep.refl h0 [a]).trans K2 (allS (Or.inl (List.mem_of_getElem? (i := 0) rfl)) all0)
  have f11 := f10.wr W5 (Or.inr (Nat.le_trans (Keep.refl h0 [a]).1 xq2_fresh_t))
  have f12 := f11.wr W9 (Or.inl (List.mem_of_getElem? (i := 0) rfl))
  have f13 := f6.wr W9
  have f14 := fq2_1.other W5 (Or.inl ne7)
  have f15 := f14.other W9 (Or.inr (slot_ne (Or.inl (wd hw 94 rfl)) (Or.inl (wd hw 260 rfl)) (by decide) (t := (.array (.object ks2))) (t' := .int) (by decide) (by decide)))
  have f16 := fq2_3.other W5 (Or.inl ne7)
  have f17 := f16.other W9 (Or.inr (slot_ne (Or.inl (wd hw 91 rfl)) (Or.inl (wd hw 260 rfl)) (by decide) (t := .int) (t' := .int) (by decide) (by decide)))
  have f18 := V5.other W9 (Ne.symm ne7)
  exact own_retV X9 hx hret hlk (hb hby d38_22) (by decide) (by decide) (by rw [e9]; exact ⟨t2, rfl, N9, f12, f13, f15, Fw9, f17, f18, (Nat.le_trans (Keep.refl h0 [a]).1 xq2_fresh_t)⟩)
theorem d37_0 : own_D bc37 0 (.aload_n 0) 1 := by decide +kernel
theorem d37_1 : own_D bc37 1 (.dup) 1 := by decide +kernel
theorem d37_2 : own_D bc37 2 (.getfield 63) 3 := by decide +kernel
theorem d37_5 : own_D bc37 5 (.iconst 1) 1 := by decide +kernel
theorem d37_6 : own_D bc37 6 (.iadd) 1 := by decide +kernel
theorem d37_7 : own_D bc37 7 (.putfield 63) 3 := by decide +kernel
theorem d37_10 : own_D bc37 10 (.aload_n 0) 1 := by decide +kernel
theorem d37_11 : own_D bc37 11 (.aload_n 1) 1 := by decide +kernel
theorem d37_12 : own_D bc37 12 (.aload_n 0) 1 := by decide +kernel
theorem d37_13 : own_D bc37 13 (.getfield 9) 3 := by decide +kernel
theorem d37_16 : own_D bc37 16 (.aload_n 0) 1 := by decide +kernel
theorem d37_17 : own_D bc37 17 (.getfield 48) 3 := by decide +kernel
theorem d37_20 : own_D bc37 20 (.invokevirtual 131) 3 := by decide +kernel
theorem d37_23 : own_D bc37 23 (.iconst 1) 1 := by decide +kernel
theorem d37_24 : own_D bc37 24 (.ireturn) 1 := by decide +kernel
theorem pd__Ljava_lang_Object__Ljava_lang_Object_I_V : parseMethodDescriptor "(Ljava/lang/Object;[Ljava/lang/Object;I)V" = some ⟨[(.object "java/lang/Object"), (.array (.object "java/lang/Object")), .int], none⟩ := by decide +kernel
def Q_add_0 (Z : State) (a : Addr) (el : Addr) (mc : Int32) (dA : Addr) (clD : Cell) (kO : ClassId) (h0 : Heap) (n0 : Nat) (v : Option Value) (h : Heap) (L : List Loc) : Prop := ∃ (t : Addr), (v = some (.int (1 : Int32))) ∧ (Fr n0 L) ∧ (Keep h0 h [a]) ∧ (Exa Z h a ks6) ∧ (Fld Z h a ks6 ks20 ks8 (.ref t)) ∧ (Fld Z h a ks6 "size" "I" (.int (1 : Int32))) ∧ (Fld Z h a ks17 "modCount" "I" (.int (mc + (1 : Int32)))) ∧ (Arv Z h t kO (.object ks2) (10 : Int32) [(.ref el), .null, .null, .null, .null, .null, .null, .null, .null, .null] .null) ∧ (h0.size ≤ t)
theorem rm_add_0 (l : Launch) (Z : State) (a0 : Array Value) (hw : own_HW a0 Z) (ws : List Jvm.Cond) (a : Addr) (el : Addr) (mc : Int32) (dA : Addr) (clD : Cell) (kO : ClassId) (h0 : Heap) (n0 : Nat) (O0 : Old Z n0 h0) (P0 : Exa Z h0 a ks6) (P1 : Fld Z h0 a ks6 ks20 ks8 (.ref dA)) (P2 : Fld Z h0 a ks6 "size" "I" (.int (0 : Int32))) (P3 : Fld Z h0 a ks17 "modCount" "I" (.int mc)) (fa : n0 ≤ a) (SDe : Sta Z Z.heap ks6 "DEFAULTCAPACITY_EMPTY_ELEMENTDATA" ks8 (.ref dA)) (AD : Arr Z Z.heap dA clD (.object ks2)) (LD : clD.slots.size.toInt32 = (0 : Int32)) (OV : Ovr Z kO ks2) (FC : Z.vm.findClass ks8 = some kO) (I_el : Ins Z h0 el ks2 true) :
    own_MF l own_m16 (Jvm.Cond.code own_m16 bc37 2 (some .boolean) :: ws) (rm4 4 1 10 56) #[(.ref a), (.ref el)] Z h0 (Q_add_0 Z a el mc dA clD kO h0 n0) := by
  refine own_met (own := ks6) (nme := "add") rfl rfl (plainFor_of_name pn_5) ?_
  intro p e s m below meth c s₁ hx hby hml hown hnm X0 e0 hret hlk hZ
  have N0 := Fr.nil n0
  rw [ef_ini1_2 m a el]
  refine own_st (T' := s₁) (g' := (mkF m 1 #[rv a, rv el] [(.ref a)])) (fun _ k_ => XS.aloadN X0.here hx rfl (hb hby d37_0) rfl rfl  k_) ?_
  refine own_sp (q := 2) (S' := [(.ref a), (.ref a)]) (fun _ k_ => XS.dup X0.here hx rfl (hb hby d37_1) rfl rfl k_) ?_
  refine own_kget own_ckE X0 hx hZ hown (host := "") (Or.inl (wd hw 257 rfl)) (Via.of (wd hw 258 rfl)) e0 P3 (hb hby d37_2) (q := 5) rfl fun T1 X1 e1 => ?_
  refine own_sp (q := 6) (S' := [(.int (1 : Int32)), (.int mc), (.ref a)]) (fun _ k_ => XS.iconst X1.here hx rfl (hb hby d37_5) k_) ?_
  refine own_sp (q := 7) (S' := [(.int (mc + (1 : Int32))), (.ref a)]) (fun _ k_ => XS.iadd X1.here hx rfl (hb hby d37_6) rfl k_) ?_
  refine own_kput own_ckE X1 hx hZ hown (host := "") (Or.inl (wd hw 257 rfl)) (Via.of (wd hw 258 rfl)) e1 P3 P0 (Or.inl (wd hw 91 rfl)) (wd hw 72 rfl) (ty := .int) (by decide) rfl rfl (hb hby d37_7) (q := 10) rfl fun T2 h2 X2 e2 W2 => ?_
  have Fw2 : Fld Z h2 a ks17 "modCount" "I" (.int (mc + (1 : Int32))) := Fld.same W2 P3
  have N2 := Fr.snoc X2 N0 fa
  refine own_sp (q := 11) (S' := [(.ref a)]) (fun _ k_ => XS.aloadN X2.here hx rfl (hb hby d37_10) rfl rfl  k_) ?_
  refine own_sp (q := 12) (S' := [(.ref el), (.ref a)]) (fun _ k_ => XS.aloadN X2.here hx rfl (hb hby d37_11) rfl rfl  k_) ?_
  refine own_sp (q := 13) (S' := [(.ref a), (.ref el), (.ref a)]) (fun _ k_ => XS.aloadN X2.here hx rfl (hb hby d37_12) rfl rfl  k_) ?_
  have f3 := P1.other W2 (Or.inr (slot_ne (Or.inl (wd hw 94 rfl)) (Or.inl (wd hw 91 rfl)) (by decide) (t := (.array (.object ks2))) (t' := .int) (by decide) (by decide)))
  refine own_kget own_ckE X2 hx hZ hown (host := "") (Or.inl (wd hw 93 rfl)) Via.refl e2 f3 (hb hby d37_13) (q := 16) rfl fun T4 X4 e4 => ?_
  refine own_sp (q := 17) (S' := [(.ref a), (.ref dA), (.ref el), (.ref a)]) (fun _ k_ => XS.aloadN X4.here hx rfl (hb hby d37_16) rfl rfl  k_) ?_
  have f5 := P2.other W2 (Or.inr (slot_ne (Or.inl (wd hw 260 rfl)) (Or.inl (wd hw 91 rfl)) (by decide) (t := .int) (t' := .int) (by decide) (by decide)))
  refine own_kget own_ckE X4 hx hZ hown (host := "") (Or.inl (wd hw 259 rfl)) Via.refl e4 f5 (hb hby d37_17) (q := 20) rfl fun T6 X6 e6 => ?_
  have f7 := P0.wr W2
  have f8 := Ins.wr W2 I_el
  have f9 := O0.wr W2 fa
  have f10 := (Keep.refl h0 [a]).wr W2 (Or.inl (List.mem_of_getElem? (i := 0) rfl))
  refine own_kcP own_ckE X6 hx hZ hown hml (y := own_m15) (wd hw 261 rfl) (wd hw 262 rfl) (wd hw 264 rfl) (wd hw 263 rfl) (wd hw 73 rfl) (wd hw 265 rfl) (by decide) f7 (rm_ad3_0 l Z a0 hw [] a el (mc + (1 : Int32)) dA clD kO h2 n0 f9 f7 f3 f5 Fw2 fa SDe AD LD OV FC f8) (by decide) (by decide) (W := 0) (Nat.le_of_eq rfl) (argsL := [(.ref el), (.ref dA), (.int (0 : Int32))]) (rest := []) (lenOf pd__Ljava_lang_Object__Ljava_lang_Object_I_V rfl) rfl rfl (hb hby d37_20) rfl e6 (by decide) (by decide) (c' := 1) (s' := 10) rfl rfl (q := 23) rfl fun _ T11 L11 X11 hQ11 => ?_
  obtain ⟨t11, rfl, Nq11, K11, fq11_0, fq11_1, fq11_2, fq11_3, fq11_4, xq11_fresh_t⟩ := hQ11
  have N11 := Fr.app N2 Nq11
  show own_E p e below s _ _ _ T11 (mkF m 23 _ [])
  refine own_sp (q := 24) (S' := [(.int (1 : Int32))]) (fun _ k_ => XS.iconst X11.here hx rfl (hb hby d37_23) k_) ?_
  have f12 := f10.trans K11 (allS (Or.inl (List.mem_of_getElem? (i := 0) rfl)) all0)
  exact own_retN X11 hx (t := .boolean) hret (by simp) hlk (hb hby d37_24) (by decide) (by decide) ⟨t11, rfl, N11, f12, fq11_0, fq11_1, fq11_2, fq11_3, fq11_4, (Nat.le_trans f10.1 xq11_fresh_t)⟩
def Q_ad3_1 (Z : State) (a : Addr) (el : Addr) (t : Addr) (mc : Int32) (kO : ClassId) (v0 : Value) (h0 : Heap) (n0 : Nat) (v : Option Value) (h : Heap) (L : List Loc) : Prop := (v = none) ∧ (Fr n0 L) ∧ (Keep h0 h [a, t]) ∧ (Exa Z h a ks6) ∧ (Fld Z h a ks6 ks20 ks8 (.ref t)) ∧ (Fld Z h a ks6 "size" "I" (.int (2 : Int32))) ∧ (Fld Z h a ks17 "modCount" "I" (.int mc)) ∧ (Arv Z h t kO (.object ks2) (10 : Int32) [v0, (.ref el), .null, .null, .null, .null, .null, .null, .null, .null] .null)
theorem rm_ad3_1 (l : Launch) (Z : State) (a0 : Array Value) (hw : own_HW a0 Z) (ws : List Jvm.Cond) (a : Addr) (el : Addr) (t : Addr) (mc : Int32) (kO : ClassId) (v0 : Value) (h0 : Heap) (n0 : Nat) (O0 : Old Z n0 h0) (P0 : Exa Z h0 a ks6) (P1 : Fld Z h0 a ks6 ks20 ks8 (.ref t)) (P2 : Fld Z h0 a ks6 "size" "I" (.int (1 : Int32))) (P3 : Fld Z h0 a ks17 "modCount" "I" (.int mc)) (P4 : Arv Z h0 t kO (.object ks2) (10 : Int32) [v0, .null, .null, .null, .null, .null, .null, .null, .null, .null] .null) (fa : n0 ≤ a) (ft : n0 ≤ t) (OV : Ovr Z kO ks2) (FC : Z.vm.findClass ks8 = some kO) (I_el : Ins Z h0 el ks2 true) :
    own_MF l own_m15 (Jvm.Cond.code own_m15 bc38 4 none :: ws) (rm4 0 0 0 0) #[(.ref a), (.ref el), (.ref t), (.int (1 : Int32))] Z h0 (Q_ad3_1 Z a el t mc kO v0 h0 n0) := by
  refine own_met (own := ks6) (nme := "add") rfl rfl (plainFor_of_name pn_5) ?_
  intro p e s m below meth c s₁ hx hby hml hown hnm X0 e0 hret hlk hZ
  have N0 := Fr.nil n0
  rw [ef_ad3_0 m a el t (1 : Int32)]
  refine own_st (T' := s₁) (g' := (mkF m 1 #[rv a, rv el, rv t, iv (1 : Int32)] [(.int (1 : Int32))])) (fun _ k_ => XS.iloadN X0.here hx rfl (hb hby d38_0) rfl  k_) ?_
  refine own_sp (q := 2) (S' := [(.ref t), (.int (1 : Int32))]) (fun _ k_ => XS.aloadN X0.here hx rfl (hb hby d38_1) rfl rfl  k_) ?_
  obtain ⟨cl1, Ar1, -, S1, N1, -, -⟩ := id P4
  refine own_sp (q := 3) (S' := [(.int (10 : Int32)), (.int (1 : Int32))]) (fun t_ k_ => X0.arraylength hx (by rw [e0]; exact Ar1.1) (State.isArrayOf_alike hZ.alike Ar1.2.1) (g := (mkF m 2 #[rv a, rv el, rv t, iv (1 : Int32)] [(.ref t), (.int (1 : Int32))])) rfl rfl (hb hby d38_2) _ (by rw [len_of S1 N1]; exact k_)) ?_
  refine own_sp (q := 11) (S' := []) (fun _ k_ => XS.icmpYes X0.here hx rfl (pc0 := 3) (pc' := 11) rfl (hb hby d38_3) rfl (feq (by decide : ¬ ((1 : Int32) = (10 : Int32)))).2 (by decide) (by decide) k_) ?_
  refine own_sp (q := 12) (S' := [(.ref t)]) (fun _ k_ => XS.aloadN X0.here hx rfl (hb hby d38_11) rfl rfl  k_) ?_
  refine own_sp (q := 13) (S' := [(.int (1 : Int32)), (.ref t)]) (fun _ k_ => XS.iloadN X0.here hx rfl (hb hby d38_12) rfl  k_) ?_
  refine own_sp (q := 14) (S' := [(.ref el), (.int (1 : Int32)), (.ref t)]) (fun _ k_ => XS.aloadN X0.here hx rfl (hb hby d38_13) rfl rfl  k_) ?_
  obtain ⟨cl2, Ar2, q2, S2, N2, H2, G2⟩ := id P4
  have hin2 : ¬ ((1 : Int32) < 0 ∨ cl2.slots.size ≤ ((1 : Int32)).toNatClampNeg) := inb_of S2 ⟨by decide, by decide⟩
  obtain ⟨T3, h3, X3, e3, W3, st3⟩ := stR X0 hx hZ e0 Ar2 (j := (1 : Int32)) hin2 rfl (Sto.of Ar2 (q2 ▸ OV) I_el) (g := (mkF m 14 #[rv a, rv el, rv t, iv (1 : Int32)] [(.ref el), (.int (1 : Int32)), (.ref t)])) rfl rfl (hb hby d38_14)
  have V3 : Arv Z h3 t kO (.object ks2) (10 : Int32) [v0, (.ref el), .null, .null, .null, .null, .null, .null, .null, .null] .null := Arv.set Ar2 q2 S2 N2 H2 G2 rfl W3 1 rfl (Nat.le_of_ble_eq_true rfl)
  have Nx3 := Fr.snoc X3 N0 ft
  refine own_sp (q := 15) (S' := []) st3 ?_
  clear hin2 G2 H2 N2 S2 q2 Ar2 cl2 st3
  refine own_sp (q := 16) (S' := [(.ref a)]) (fun _ k_ => XS.aloadN X3.here hx rfl (hb hby d38_15) rfl rfl  k_) ?_
  refine own_sp (q := 17) (S' := [(.int (1 : Int32)), (.ref a)]) (fun _ k_ => XS.iloadN X3.here hx rfl (hb hby d38_16) rfl  k_) ?_
  refine own_sp (q := 18) (S' := [(.int (1 : Int32)), (.int (1 : Int32)), (.ref a)]) (fun _ k_ => XS.iconst X3.here hx rfl (hb hby d38_17) k_) ?_
  refine own_sp (q := 19) (S' := [(.int (2 : Int32)), (.ref a)]) (fun _ k_ => XS.iadd X3.here hx rfl (hb hby d38_18) rfl k_) ?_
  have f4 := P0.wr W3
  have xe5 : Exa Z h3 a ks6 := P0.wr W3
  have ne6 : a ≠ t := own_neA xe5 (wd hw 72 rfl) V3
  have f7 := P2.other W3 (Or.inl ne6)
  refine own_kput own_ckE X3 hx hZ hown (host := "") (Or.inl (wd hw 259 rfl)) Via.refl e3 f7 f4 (Or.inl (wd hw 260 rfl)) (wd hw 72 rfl) (ty := .int) (by decide) rfl rfl (hb hby d38_19) (q := 22) rfl fun T8 h8 X8 e8 W8 => ?_
  have Fw8 : Fld Z h8 a ks6 "size" "I" (.int (2 : Int32)) := Fld.same W8 f7
  have N8 := Fr.snoc X8 Nx3 fa
  have f9 := (Keep.refl h0 [a, t]).wr W3 (Or.inl (List.mem_of_getElem? (i := 1) rfl))
  have f10 := f9.wr W8 (Or.inl (List.mem_of_getElem? (i := 0) rfl))
  have f11 := f4.wr W8
  have f12 := P1.other W3 (Or.inl ne6)
  have f13 := f12.other W8 (Or.inr (slot_ne (Or.inl (wd hw 94 rfl)) (Or.inl (wd hw 260 rfl)) (by decide) (t := (.array (.object ks2))) (t' := .int) (by decide) (by decide)))
  have f14 := P3.other W3 (Or.inl ne6)
  have f15 := f14.other W8 (Or.inr (slot_ne (Or.inl (wd hw 91 rfl)) (Or.inl (wd hw 260 rfl)) (by decide) (t := .int) (t' := .int) (by decide) (by decide)))
  have f16 := V3.other W8 (Ne.symm ne6)
  exact own_retV X8 hx hret hlk (hb hby d38_22) (by decide) (by decide) (by rw [e8]; exact ⟨rfl, N8, f10, f11, f13, Fw8, f15, f16⟩)
def Q_add_1 (Z : State) (a : Addr) (el : Addr) (t : Addr) (mc : Int32) (kO : ClassId) (v0 : Value) (h0 : Heap) (n0 : Nat) (v : Option Value) (h : Heap) (L : List Loc) : Prop := (v = some (.int (1 : Int32))) ∧ (Fr n0 L) ∧ (Keep h0 h [a, t]) ∧ (Exa Z h a ks6) ∧ (Fld Z h a ks6 ks20 ks8 (.ref t)) ∧ (Fld Z h a ks6 "size" "I" (.int (2 : Int32))) ∧ (Fld Z h a ks17 "modCount" "I" (.int (mc + (1 : Int32)))) ∧ (Arv Z h t kO (.object ks2) (10 : Int32) [v0, (.ref el), .null, .null, .null, .null, .null, .null, .null, .null] .null)
theorem rm_add_1 (l : Launch) (Z : State) (a0 : Array Value) (hw : own_HW a0 Z) (ws : List Jvm.Cond) (a : Addr) (el : Addr) (t : Addr) (mc : Int32) (kO : ClassId) (v0 : Value) (h0 : Heap) (n0 : Nat) (O0 : Old Z n0 h0) (P0 : Exa Z h0 a ks6) (P1 : Fld Z h0 a ks6 ks20 ks8 (.ref t)) (P2 : Fld Z h0 a ks6 "size" "I" (.int (1 : Int32))) (P3 : Fld Z h0 a ks17 "modCount" "I" (.int mc)) (P4 : Arv Z h0 t kO (.object ks2) (10 : Int32) [v0, .null, .null, .null, .null, .null, .null, .null, .null, .null] .null) (fa : n0 ≤ a) (ft : n0 ≤ t) (OV : Ovr Z kO ks2) (FC : Z.vm.findClass ks8 = some kO) (I_el : Ins Z h0 el ks2 true) :
    own_MF l own_m16 (Jvm.Cond.code own_m16 bc37 2 (some .boolean) :: ws) (rm4 1 0 0 15) #[(.ref a), (.ref el)] Z h0 (Q_add_1 Z a el t mc kO v0 h0 n0) := by
  refine own_met (own := ks6) (nme := "add") rfl rfl (plainFor_of_name pn_5) ?_
  intro p e s m below meth c s₁ hx hby hml hown hnm X0 e0 hret hlk hZ
  have N0 := Fr.nil n0
  rw [ef_ini1_2 m a el]
  refine own_st (T' := s₁) (g' := (mkF m 1 #[rv a, rv el] [(.ref a)])) (fun _ k_ => XS.aloadN X0.here hx rfl (hb hby d37_0) rfl rfl  k_) ?_
  refine own_sp (q := 2) (S' := [(.ref a), (.ref a)]) (fun _ k_ => XS.dup X0.here hx rfl (hb hby d37_1) rfl rfl k_) ?_
  refine own_kget own_ckE X0 hx hZ hown (host := "") (Or.inl (wd hw 257 rfl)) (Via.of (wd hw 258 rfl)) e0 P3 (hb hby d37_2) (q := 5) rfl fun T1 X1 e1 => ?_
  refine own_sp (q := 6) (S' := [(.int (1 : Int32)), (.int mc), (.ref a)]) (fun _ k_ => XS.iconst X1.here hx rfl (hb hby d37_5) k_) ?_
  refine own_sp (q := 7) (S' := [(.int (mc + (1 : Int32))), (.ref a)]) (fun _ k_ => XS.iadd X1.here hx rfl (hb hby d37_6) rfl k_) ?_
  refine own_kput own_ckE X1 hx hZ hown (host := "") (Or.inl (wd hw 257 rfl)) (Via.of (wd hw 258 rfl)) e1 P3 P0 (Or.inl (wd hw 91 rfl)) (wd hw 72 rfl) (ty := .int) (by decide) rfl rfl (hb hby d37_7) (q := 10) rfl fun T2 h2 X2 e2 W2 => ?_
  have Fw2 : Fld Z h2 a ks17 "modCount" "I" (.int (mc + (1 : Int32))) := Fld.same W2 P3
  have N2 := Fr.snoc X2 N0 fa
  refine own_sp (q := 11) (S' := [(.ref a)]) (fun _ k_ => XS.aloadN X2.here hx rfl (hb hby d37_10) rfl rfl  k_) ?_
  refine own_sp (q := 12) (S' := [(.ref el), (.ref a)]) (fun _ k_ => XS.aloadN X2.here hx rfl (hb hby d37_11) rfl rfl  k_) ?_
  refine own_sp (q := 13) (S' := [(.ref a), (.ref el), (.ref a)]) (fun _ k_ => XS.aloadN X2.here hx rfl (hb hby d37_12) rfl rfl  k_) ?_
  have f3 := P1.other W2 (Or.inr (slot_ne (Or.inl (wd hw 94 rfl)) (Or.inl (wd hw 91 rfl)) (by decide) (t := (.array (.object ks2))) (t' := .int) (by decide) (by decide)))
  refine own_kget own_ckE X2 hx hZ hown (host := "") (Or.inl (wd hw 93 rfl)) Via.refl e2 f3 (hb hby d37_13) (q := 16) rfl fun T4 X4 e4 => ?_
  refine own_sp (q := 17) (S' := [(.ref a), (.ref t), (.ref el), (.ref a)]) (fun _ k_ => XS.aloadN X4.here hx rfl (hb hby d37_16) rfl rfl  k_) ?_
  have f5 := P2.other W2 (Or.inr (slot_ne (Or.inl (wd hw 260 rfl)) (Or.inl (wd hw 91 rfl)) (by decide) (t := .int) (t' := .int) (by decide) (by decide)))
  refine own_kget own_ckE X4 hx hZ hown (host := "") (Or.inl (wd hw 259 rfl)) Via.refl e4 f5 (hb hby d37_17) (q := 20) rfl fun T6 X6 e6 => ?_
  have f7 := P0.wr W2
  have ne8 : a ≠ t := own_neA P0 (wd hw 72 rfl) P4
  have f9 := P4.other W2 (Ne.symm ne8)
  have f10 := Ins.wr W2 I_el
  have f11 := O0.wr W2 fa
  refine own_kcP own_ckE X6 hx hZ hown hml (y := own_m15) (wd hw 261 rfl) (wd hw 262 rfl) (wd hw 264 rfl) (wd hw 263 rfl) (wd hw 73 rfl) (wd hw 265 rfl) (by decide) f7 (rm_ad3_1 l Z a0 hw [] a el t (mc + (1 : Int32)) kO v0 h2 n0 f11 f7 f3 f5 Fw2 f9 fa ft OV FC f10) (by decide) (by decide) (W := 0) (Nat.le_of_eq rfl) (argsL := [(.ref el), (.ref t), (.int (1 : Int32))]) (rest := []) (lenOf pd__Ljava_lang_Object__Ljava_lang_Object_I_V rfl) rfl rfl (hb hby d37_20) rfl e6 (by decide) (by decide) (c' := 0) (s' := 0) rfl rfl (q := 23) rfl fun _ T12 L12 X12 hQ12 => ?_
  obtain ⟨rfl, Nq12, K12, fq12_0, fq12_1, fq12_2, fq12_3, fq12_4⟩ := hQ12
  have N12 := Fr.app N2 Nq12
  show own_E p e below s _ _ _ T12 (mkF m 23 _ [])
  refine own_sp (q := 24) (S' := [(.int (1 : Int32))]) (fun _ k_ => XS.iconst X12.here hx rfl (hb hby d37_23) k_) ?_
  have f13 := (Keep.refl h0 [a, t]).wr W2 (Or.inl (List.mem_of_getElem? (i := 0) rfl))
  have f14 := f13.trans K12 (allS (Or.inl (List.mem_of_getElem? (i := 0) rfl)) (allS (Or.inl (List.mem_of_getElem? (i := 1) rfl)) all0))
  exact own_retN X12 hx (t := .boolean) hret (by simp) hlk (hb hby d37_24) (by decide) (by decide) ⟨rfl, N12, f14, fq12_0, fq12_1, fq12_2, fq12_3, fq12_4⟩
def Q_ad3_2 (Z : State) (a : Addr) (el : Addr) (t : Addr) (mc : Int32) (kO : ClassId) (v0 : Value) (v1 : Value) (h0 : Heap) (n0 : Nat) (v : Option Value) (h : Heap) (L : List Loc) : Prop := (v = none) ∧ (Fr n0 L) ∧ (Keep h0 h [a, t]) ∧ (Exa Z h a ks6) ∧ (Fld Z h a ks6 ks20 ks8 (.ref t)) ∧ (Fld Z h a ks6 "size" "I" (.int (3 : Int32))) ∧ (Fld Z h a ks17 "modCount" "I" (.int mc)) ∧ (Arv Z h t kO (.object ks2) (10 : Int32) [v0, v1, (.ref el), .null, .null, .null, .null, .null, .null, .null] .null)
theorem rm_ad3_2 (l : Launch) (Z : State) (a0 : Array Value) (hw : own_HW a0 Z) (ws : List Jvm.Cond) (a : Addr) (el : Addr) (t : Addr) (mc : Int32) (kO : ClassId) (v0 : Value) (v1 : Value) (h0 : Heap) (n0 : Nat) (O0 : Old Z n0 h0) (P0 : Exa Z h0 a ks6) (P1 : Fld Z h0 a ks6 ks20 ks8 (.ref t)) (P2 : Fld Z h0 a ks6 "size" "I" (.int (2 : Int32))) (P3 : Fld Z h0 a ks17 "modCount" "I" (.int mc)) (P4 : Arv Z h0 t kO (.object ks2) (10 : Int32) [v0, v1, .null, .null, .null, .null, .null, .null, .null, .null] .null) (fa : n0 ≤ a) (ft : n0 ≤ t) (OV : Ovr Z kO ks2) (FC : Z.vm.findClass ks8 = some kO) (I_el : Ins Z h0 el ks2 true) :
    own_MF l own_m15 (Jvm.Cond.code own_m15 bc38 4 none :: ws) (rm4 0 0 0 0) #[(.ref a), (.ref el), (.ref t), (.int (2 : Int32))] Z h0 (Q_ad3_2 Z a el t mc kO v0 v1 h0 n0) := by
  refine own_met (own := ks6) (nme := "add") rfl rfl (plainFor_of_name pn_5) ?_
  intro p e s m below meth c s₁ hx hby hml hown hnm X0 e0 hret hlk hZ
  have N0 := Fr.nil n0
  rw [ef_ad3_0 m a el t (2 : Int32)]
  refine own_st (T' := s₁) (g' := (mkF m 1 #[rv a, rv el, rv t, iv (2 : Int32)] [(.int (2 : Int32))])) (fun _ k_ => XS.iloadN X0.here hx rfl (hb hby d38_0) rfl  k_) ?_
  refine own_sp (q := 2) (S' := [(.ref t), (.int (2 : Int32))]) (fun _ k_ => XS.aloadN X0.here hx rfl (hb hby d38_1) rfl rfl  k_) ?_
  obtain ⟨cl1, Ar1, -, S1, N1, -, -⟩ := id P4
  refine own_sp (q := 3) (S' := [(.int (10 : Int32)), (.int (2 : Int32))]) (fun t_ k_ => X0.arraylength hx (by rw [e0]; exact Ar1.1) (State.isArrayOf_alike hZ.alike Ar1.2.1) (g := (mkF m 2 #[rv a, rv el, rv t, iv (2 : Int32)] [(.ref t), (.int (2 : Int32))])) rfl rfl (hb hby d38_2) _ (by rw [len_of S1 N1]; exact k_)) ?_
  refine own_sp (q := 11) (S' := []) (fun _ k_ => XS.icmpYes X0.here hx rfl (pc0 := 3) (pc' := 11) rfl (hb hby d38_3) rfl (feq (by decide : ¬ ((2 : Int32) = (10 : Int32)))).2 (by decide) (by decide) k_) ?_
  refine own_sp (q := 12) (S' := [(.ref t)]) (fun _ k_ => XS.aloadN X0.here hx rfl (hb hby d38_11) rfl rfl  k_) ?_
  refine own_sp (q := 13) (S' := [(.int (2 : Int32)), (.ref t)]) (fun _ k_ => XS.iloadN X0.here hx rfl (hb hby d38_12) rfl  k_) ?_
  refine own_sp (q := 14) (S' := [(.ref el), (.int (2 : Int32)), (.ref t)]) (fun _ k_ => XS.aloadN X0.here hx rfl (hb hby d38_13) rfl rfl  k_) ?_
  obtain ⟨cl2, Ar2, q2, S2, N2, H2, G2⟩ := id P4
  have hin2 : ¬ ((2 : Int32) < 0 ∨ cl2.slots.size ≤ ((2 : Int32)).toNatClampNeg) := inb_of S2 ⟨by decide, by decide⟩
  obtain ⟨T3, h3, X3, e3, W3, st3⟩ := stR X0 hx hZ e0 Ar2 (j := (2 : Int32)) hin2 rfl (Sto.of Ar2 (q2 ▸ OV) I_el) (g := (mkF m 14 #[rv a, rv el, rv t, iv (2 : Int32)] [(.ref el), (.int (2 : Int32)), (.ref t)])) rfl rfl (hb hby d38_14)
  have V3 : Arv Z h3 t kO (.object ks2) (10 : Int32) [v0, v1, (.ref el), .null, .null, .null, .null, .null, .null, .null] .null := Arv.set Ar2 q2 S2 N2 H2 G2 rfl W3 2 rfl (Nat.le_of_ble_eq_true rfl)
  have Nx3 := Fr.snoc X3 N0 ft
  refine own_sp (q := 15) (S' := []) st3 ?_
  clear hin2 G2 H2 N2 S2 q2 Ar2 cl2 st3
  refine own_sp (q := 16) (S' := [(.ref a)]) (fun _ k_ => XS.aloadN X3.here hx rfl (hb hby d38_15) rfl rfl  k_) ?_
  refine own_sp (q := 17) (S' := [(.int (2 : Int32)), (.ref a)]) (fun _ k_ => XS.iloadN X3.here hx rfl (hb hby d38_16) rfl  k_) ?_
  refine own_sp (q := 18) (S' := [(.int (1 : Int32)), (.int (2 : Int32)), (.ref a)]) (fun _ k_ => XS.iconst X3.here hx rfl (hb hby d38_17) k_) ?_
  refine own_sp (q := 19) (S' := [(.int (3 : Int32)), (.ref a)]) (fun _ k_ => XS.iadd X3.here hx rfl (hb hby d38_18) rfl k_) ?_
  have f4 := P0.wr W3
  have xe5 : Exa Z h3 a ks6 := P0.wr W3
  have ne6 : a ≠ t := own_neA xe5 (wd hw 72 rfl) V3
  have f7 := P2.other W3 (Or.inl ne6)
  refine own_kput own_ckE X3 hx hZ hown (host := "") (Or.inl (wd hw 259 rfl)) Via.refl e3 f7 f4 (Or.inl (wd hw 260 rfl)) (wd hw 72 rfl) (ty := .int) (by decide) rfl rfl (hb hby d38_19) (q := 22) rfl fun T8 h8 X8 e8 W8 => ?_
  have Fw8 : Fld Z h8 a ks6 "size" "I" (.int (3 : Int32)) := Fld.same W8 f7
  have N8 := Fr.snoc X8 Nx3 fa
  have f9 := (Keep.refl h0 [a, t]).wr W3 (Or.inl (List.mem_of_getElem? (i := 1) rfl))
  have f10 := f9.wr W8 (Or.inl (List.mem_of_getElem? (i := 0) rfl))
  have f11 := f4.wr W8
  have f12 := P1.other W3 (Or.inl ne6)
  have f13 := f12.other W8 (Or.inr (slot_ne (Or.inl (wd hw 94 rfl)) (Or.inl (wd hw 260 rfl)) (by decide) (t := (.array (.object ks2))) (t' := .int) (by decide) (by decide)))
  have f14 := P3.other W3 (Or.inl ne6)
  have f15 := f14.other W8 (Or.inr (slot_ne (Or.inl (wd hw 91 rfl)) (Or.inl (wd hw 260 rfl)) (by decide) (t := .int) (t' := .int) (by decide) (by decide)))
  have f16 := V3.other W8 (Ne.symm ne6)
  exact own_retV X8 hx hret hlk (hb hby d38_22) (by decide) (by decide) (by rw [e8]; exact ⟨rfl, N8, f10, f11, f13, Fw8, f15, f16⟩)
def Q_add_2 (Z : State) (a : Addr) (el : Addr) (t : Addr) (mc : Int32) (kO : ClassId) (v0 : Value) (v1 : Value) (h0 : Heap) (n0 : Nat) (v : Option Value) (h : Heap) (L : List Loc) : Prop := (v = some (.int (1 : Int32))) ∧ (Fr n0 L) ∧ (Keep h0 h [a, t]) ∧ (Exa Z h a ks6) ∧ (Fld Z h a ks6 ks20 ks8 (.ref t)) ∧ (Fld Z h a ks6 "size" "I" (.int (3 : Int32))) ∧ (Fld Z h a ks17 "modCount" "I" (.int (mc + (1 : Int32)))) ∧ (Arv Z h t kO (.object ks2) (10 : Int32) [v0, v1, (.ref el), .null, .null, .null, .null, .null, .null, .null] .null)
theorem rm_add_2 (l : Launch) (Z : State) (a0 : Array Value) (hw : own_HW a0 Z) (ws : List Jvm.Cond) (a : Addr) (el : Addr) (t : Addr) (mc : Int32) (kO : ClassId) (v0 : Value) (v1 : Value) (h0 : Heap) (n0 : Nat) (O0 : Old Z n0 h0) (P0 : Exa Z h0 a ks6) (P1 : Fld Z h0 a ks6 ks20 ks8 (.ref t)) (P2 : Fld Z h0 a ks6 "size" "I" (.int (2 : Int32))) (P3 : Fld Z h0 a ks17 "modCount" "I" (.int mc)) (P4 : Arv Z h0 t kO (.object ks2) (10 : Int32) [v0, v1, .null, .null, .null, .null, .null, .null, .null, .null] .null) (fa : n0 ≤ a) (ft : n0 ≤ t) (OV : Ovr Z kO ks2) (FC : Z.vm.findClass ks8 = some kO) (I_el : Ins Z h0 el ks2 true) :
    own_MF l own_m16 (Jvm.Cond.code own_m16 bc37 2 (some .boolean) :: ws) (rm4 1 0 0 15) #[(.ref a), (.ref el)] Z h0 (Q_add_2 Z a el t mc kO v0 v1 h0 n0) := by
  refine own_met (own := ks6) (nme := "add") rfl rfl (plainFor_of_name pn_5) ?_
  intro p e s m below meth c s₁ hx hby hml hown hnm X0 e0 hret hlk hZ
  have N0 := Fr.nil n0
  rw [ef_ini1_2 m a el]
  refine own_st (T' := s₁) (g' := (mkF m 1 #[rv a, rv el] [(.ref a)])) (fun _ k_ => XS.aloadN X0.here hx rfl (hb hby d37_0) rfl rfl  k_) ?_
  refine own_sp (q := 2) (S' := [(.ref a), (.ref a)]) (fun _ k_ => XS.dup X0.here hx rfl (hb hby d37_1) rfl rfl k_) ?_
  refine own_kget own_ckE X0 hx hZ hown (host := "") (Or.inl (wd hw 257 rfl)) (Via.of (wd hw 258 rfl)) e0 P3 (hb hby d37_2) (q := 5) rfl fun T1 X1 e1 => ?_
  refine own_sp (q := 6) (S' := [(.int (1 : Int32)), (.int mc), (.ref a)]) (fun _ k_ => XS.iconst X1.here hx rfl (hb hby d37_5) k_) ?_
  refine own_sp (q := 7) (S' := [(.int (mc + (1 : Int32))), (.ref a)]) (fun _ k_ => XS.iadd X1.here hx rfl (hb hby d37_6) rfl k_) ?_
  refine own_kput own_ckE X1 hx hZ hown (host := "") (Or.inl (wd hw 257 rfl)) (Via.of (wd hw 258 rfl)) e1 P3 P0 (Or.inl (wd hw 91 rfl)) (wd hw 72 rfl) (ty := .int) (by decide) rfl rfl (hb hby d37_7) (q := 10) rfl fun T2 h2 X2 e2 W2 => ?_
  have Fw2 : Fld Z h2 a ks17 "modCount" "I" (.int (mc + (1 : Int32))) := Fld.same W2 P3
  have N2 := Fr.snoc X2 N0 fa
  refine own_sp (q := 11) (S' := [(.ref a)]) (fun _ k_ => XS.aloadN X2.here hx rfl (hb hby d37_10) rfl rfl  k_) ?_
  refine own_sp (q := 12) (S' := [(.ref el), (.ref a)]) (fun _ k_ => XS.aloadN X2.here hx rfl (hb hby d37_11) rfl rfl  k_) ?_
  refine own_sp (q := 13) (S' := [(.ref a), (.ref el), (.ref a)]) (fun _ k_ => XS.aloadN X2.here hx rfl (hb hby d37_12) rfl rfl  k_) ?_
  have f3 := P1.other W2 (Or.inr (slot_ne (Or.inl (wd hw 94 rfl)) (Or.inl (wd hw 91 rfl)) (by decide) (t := (.array (.object ks2))) (t' := .int) (by decide) (by decide)))
  refine own_kget own_ckE X2 hx hZ hown (host := "") (Or.inl (wd hw 93 rfl)) Via.refl e2 f3 (hb hby d37_13) (q := 16) rfl fun T4 X4 e4 => ?_
  refine own_sp (q := 17) (S' := [(.ref a), (.ref t), (.ref el), (.ref a)]) (fun _ k_ => XS.aloadN X4.here hx rfl (hb hby d37_16) rfl rfl  k_) ?_
  have f5 := P2.other W2 (Or.inr (slot_ne (Or.inl (wd hw 260 rfl)) (Or.inl (wd hw 91 rfl)) (by decide) (t := .int) (t' := .int) (by decide) (by decide)))
  refine own_kget own_ckE X4 hx hZ hown (host := "") (Or.inl (wd hw 259 rfl)) Via.refl e4 f5 (hb hby d37_17) (q := 20) rfl fun T6 X6 e6 => ?_
  have f7 := P0.wr W2
  have ne8 : a ≠ t := own_neA P0 (wd hw 72 rfl) P4
  have f9 := P4.other W2 (Ne.symm ne8)
  have f10 := Ins.wr W2 I_el
  have f11 := O0.wr W2 fa
  refine own_kcP own_ckE X6 hx hZ hown hml (y := own_m15) (wd hw 261 rfl) (wd hw 262 rfl) (wd hw 264 rfl) (wd hw 263 rfl) (wd hw 73 rfl) (wd hw 265 rfl) (by decide) f7 (rm_ad3_2 l Z a0 hw [] a el t (mc + (1 : Int32)) kO v0 v1 h2 n0 f11 f7 f3 f5 Fw2 f9 fa ft OV FC f10) (by decide) (by decide) (W := 0) (Nat.le_of_eq rfl) (argsL := [(.ref el), (.ref t), (.int (2 : Int32))]) (rest := []) (lenOf pd__Ljava_lang_Object__Ljava_lang_Object_I_V rfl) rfl rfl (hb hby d37_20) rfl e6 (by decide) (by decide) (c' := 0) (s' := 0) rfl rfl (q := 23) rfl fun _ T12 L12 X12 hQ12 => ?_
  obtain ⟨rfl, Nq12, K12, fq12_0, fq12_1, fq12_2, fq12_3, fq12_4⟩ := hQ12
  have N12 := Fr.app N2 Nq12
  show own_E p e below s _ _ _ T12 (mkF m 23 _ [])
  refine own_sp (q := 24) (S' := [(.int (1 : Int32))]) (fun _ k_ => XS.iconst X12.here hx rfl (hb hby d37_23) k_) ?_
  have f13 := (Keep.refl h0 [a, t]).wr W2 (Or.inl (List.mem_of_getElem? (i := 0) rfl))
  have f14 := f13.trans K12 (allS (Or.inl (List.mem_of_getElem? (i := 0) rfl)) (allS (Or.inl (List.mem_of_getElem? (i := 1) rfl)) all0))
  exact own_retN X12 hx (t := .boolean) hret (by simp) hlk (hb hby d37_24) (by decide) (by decide) ⟨rfl, N12, f14, fq12_0, fq12_1, fq12_2, fq12_3, fq12_4⟩
theorem own_no0 {Z : State} {a0 : Array Value} (hw : own_HW a0 Z) : ∃ c t, Z.vm.findClass ks6 = some c ∧ Z.vm.findClass ks4 = some t ∧ Z.vm.assignable c t = false := own_NSno (wd hw 288 rfl) (wd hw 389 rfl) (NS.step (wd hw 288 rfl) (NS.step (wd hw 289 rfl) (NS.step (wd hw 143 rfl) (own_NSroot (wd hw 144 rfl) (wd hw 389 rfl) (by decide)) (by decide)) (by decide)) (by decide)) (by decide)
theorem own_no1 {Z : State} {a0 : Array Value} (hw : own_HW a0 Z) : ∃ c t, Z.vm.findClass ks6 = some c ∧ Z.vm.findClass ks11 = some t ∧ Z.vm.assignable c t = false := own_NSno (wd hw 288 rfl) (wd hw 339 rfl) (NS.step (wd hw 288 rfl) (NS.step (wd hw 289 rfl) (NS.step (wd hw 143 rfl) (own_NSroot (wd hw 144 rfl) (wd hw 339 rfl) (by decide)) (by decide)) (by decide)) (by decide)) (by decide)
theorem d53_0 : own_D bc53 0 (.aload_n 0) 1 := by decide +kernel
theorem d53_1 : own_D bc53 1 (.invokespecial 1) 3 := by decide +kernel
theorem d53_4 : own_D bc53 4 (.return_) 1 := by decide +kernel
theorem pn_6 : plainName "java/util/ImmutableCollections$AbstractImmutableCollection" = true := by first | (simp [plainName, overriddenIn]; done) | decide +kernel
def Q_aici (Z : State) (x : Addr) (h0 : Heap) (n0 : Nat) (v : Option Value) (h : Heap) (L : List Loc) : Prop := (v = none) ∧ (Fr n0 L) ∧ (h = h0)
theorem rm_aici (l : Launch) (Z : State) (a0 : Array Value) (hw : own_HW a0 Z) (ws : List Jvm.Cond) (x : Addr) (h0 : Heap) (n0 : Nat) (O0 : Old Z n0 h0) :
    own_MF l own_m17 (Jvm.Cond.code own_m17 bc53 1 none :: ws) (rm4 2 0 0 24) #[(.ref x)] Z h0 (Q_aici Z x h0 n0) := by
  refine own_met (own := "java/util/ImmutableCollections$AbstractImmutableCollection") (nme := "<init>") rfl rfl (plainFor_of_name pn_6) ?_
  intro p e s m below meth c s₁ hx hby hml hown hnm X0 e0 hret hlk hZ
  have N0 := Fr.nil n0
  rw [ef_abci m x]
  refine own_st (T' := s₁) (g' := (mkF m 1 #[rv x] [(.ref x)])) (fun _ k_ => XS.aloadN X0.here hx rfl (hb hby d53_0) rfl rfl  k_) ?_
  refine own_kcI own_ckE X0 hx hZ hown hml (y := own_m9) rfl (wd hw 355 rfl) (wd hw 84 rfl) (wd hw 87 rfl) (wd hw 88 rfl) (by decide) (a := x) (rm_abci l Z a0 hw [] x h0 n0 O0) (by decide) (by decide) (W := 0) (Nat.le_of_eq rfl) (argsL := []) (rest := []) (lenOf pd___V rfl) rfl rfl (hb hby d53_1) rfl e0 (by decide) (by decide) (c' := 0) (s' := 0) rfl rfl (q := 4) rfl fun _ T1 L1 X1 hQ1 => ?_
  obtain ⟨rfl, Nq1, eq1⟩ := hQ1
  have N1 := Fr.app N0 Nq1
  show own_E p e below s _ _ _ T1 (mkF m 4 _ [])
  exact own_retV X1 hx hret hlk (hb hby d53_4) (by decide) (by decide) ⟨rfl, N1, eq1⟩
theorem d52_0 : own_D bc52 0 (.aload_n 0) 1 := by decide +kernel
theorem d52_1 : own_D bc52 1 (.invokespecial 1) 3 := by decide +kernel
theorem d52_4 : own_D bc52 4 (.return_) 1 := by decide +kernel
theorem pn_7 : plainName "java/util/ImmutableCollections$AbstractImmutableList" = true := by first | (simp [plainName, overriddenIn]; done) | decide +kernel
def Q_aili (Z : State) (x : Addr) (h0 : Heap) (n0 : Nat) (v : Option Value) (h : Heap) (L : List Loc) : Prop := (v = none) ∧ (Fr n0 L) ∧ (h = h0)
theorem rm_aili (l : Launch) (Z : State) (a0 : Array Value) (hw : own_HW a0 Z) (ws : List Jvm.Cond) (x : Addr) (h0 : Heap) (n0 : Nat) (O0 : Old Z n0 h0) :
    own_MF l own_m18 (Jvm.Cond.code own_m18 bc52 1 none :: ws) (rm4 3 0 0 36) #[(.ref x)] Z h0 (Q_aili Z x h0 n0) := by
  refine own_met (own := "java/util/ImmutableCollections$AbstractImmutableList") (nme := "<init>") rfl rfl (plainFor_of_name pn_7) ?_
  intro p e s m below meth c s₁ hx hby hml hown hnm X0 e0 hret hlk hZ
  have N0 := Fr.nil n0
  rw [ef_abci m x]
  refine own_st (T' := s₁) (g' := (mkF m 1 #[rv x] [(.ref x)])) (fun _ k_ => XS.aloadN X0.here hx rfl (hb hby d52_0) rfl rfl  k_) ?_
  refine own_kcI own_ckE X0 hx hZ hown hml (y := own_m17) rfl (wd hw 349 rfl) (wd hw 350 rfl) (wd hw 353 rfl) (wd hw 354 rfl) (by decide) (a := x) (rm_aici l Z a0 hw [] x h0 n0 O0) (by decide) (by decide) (W := 0) (Nat.le_of_eq rfl) (argsL := []) (rest := []) (lenOf pd___V rfl) rfl rfl (hb hby d52_1) rfl e0 (by decide) (by decide) (c' := 0) (s' := 0) rfl rfl (q := 4) rfl fun _ T1 L1 X1 hQ1 => ?_
  obtain ⟨rfl, Nq1, eq1⟩ := hQ1
  have N1 := Fr.app N0 Nq1
  show own_E p e below s _ _ _ T1 (mkF m 4 _ [])
  exact own_retV X1 hx hret hlk (hb hby d52_4) (by decide) (by decide) ⟨rfl, N1, eq1⟩
theorem d50_0 : own_D bc50 0 (.aload_n 0) 1 := by decide +kernel
theorem d50_1 : own_D bc50 1 (.ifnonnull 11) 3 := by decide +kernel
theorem d50_12 : own_D bc50 12 (.aload_n 0) 1 := by decide +kernel
theorem d50_13 : own_D bc50 13 (.areturn) 1 := by decide +kernel
theorem pn_8 : plainName "java/util/Objects" = true := by first | (simp [plainName, overriddenIn]; done) | decide +kernel
def Q_rnn (Z : State) (x : Addr) (h0 : Heap) (n0 : Nat) (v : Option Value) (h : Heap) (L : List Loc) : Prop := (v = some (.ref x)) ∧ (Fr n0 L) ∧ (h = h0)
theorem rm_rnn (l : Launch) (Z : State) (a0 : Array Value) (hw : own_HW a0 Z) (ws : List Jvm.Cond) (x : Addr) (h0 : Heap) (n0 : Nat) (O0 : Old Z n0 h0) :
    own_MF l own_m19 (Jvm.Cond.code own_m19 bc50 1 (some (.object ks2)) :: ws) (rm4 0 0 0 0) #[(.ref x)] Z h0 (Q_rnn Z x h0 n0) := by
  refine own_met (own := "java/util/Objects") (nme := "requireNonNull") rfl rfl (plainFor_of_name pn_8) ?_
  intro p e s m below meth c s₁ hx hby hml hown hnm X0 e0 hret hlk hZ
  have N0 := Fr.nil n0
  rw [ef_abci m x]
  refine own_st (T' := s₁) (g' := (mkF m 1 #[rv x] [(.ref x)])) (fun _ k_ => XS.aloadN X0.here hx rfl (hb hby d50_0) rfl rfl  k_) ?_
  refine own_sp (q := 12) (S' := []) (fun _ k_ => XS.ifnonnullYes X0.here hx rfl (pc0 := 1) (pc' := 12) rfl (hb hby d50_1) rfl (by decide) (by decide) k_) ?_
  refine own_sp (q := 13) (S' := [(.ref x)]) (fun _ k_ => XS.aloadN X0.here hx rfl (hb hby d50_12) rfl rfl  k_) ?_
  exact own_retA X0 hx hret rfl rfl hlk (hb hby d50_13) (by decide) (by decide) ⟨rfl, N0, e0⟩
theorem d47_0 : own_D bc47 0 (.iload_n 0) 1 := by decide +kernel
theorem d47_1 : own_D bc47 1 (.iload_n 1) 1 := by decide +kernel
theorem d47_2 : own_D bc47 2 (.if_icmp .gt 7) 3 := by decide +kernel
theorem d47_9 : own_D bc47 9 (.iload_n 1) 1 := by decide +kernel
theorem d47_10 : own_D bc47 10 (.ireturn) 1 := by decide +kernel
def Q_min (Z : State) (xx : Int32) (yy : Int32) (h0 : Heap) (n0 : Nat) (v : Option Value) (h : Heap) (L : List Loc) : Prop := (v = some (.int yy)) ∧ (Fr n0 L) ∧ (h = h0)
theorem rm_min (l : Launch) (Z : State) (a0 : Array Value) (hw : own_HW a0 Z) (ws : List Jvm.Cond) (xx : Int32) (yy : Int32) (h0 : Heap) (n0 : Nat) (O0 : Old Z n0 h0) (hmin : yy < xx) :
    own_MF l own_m20 (Jvm.Cond.code own_m20 bc47 2 (some .int) :: ws) (rm4 0 0 0 0) #[(.int xx), (.int yy)] Z h0 (Q_min Z xx yy h0 n0) := by
  refine own_met (own := "java/lang/Math") (nme := "min") rfl rfl (Jvm.Free.JP.mathPlain rfl (by decide +kernel)) ?_
  intro p e s m below meth c s₁ hx hby hml hown hnm X0 e0 hret hlk hZ
  have N0 := Fr.nil n0
  rw [ef_max m xx yy]
  refine own_st (T' := s₁) (g' := (mkF m 1 #[iv xx, iv yy] [(.int xx)])) (fun _ k_ => XS.iloadN X0.here hx rfl (hb hby d47_0) rfl  k_) ?_
  refine own_sp (q := 2) (S' := [(.int yy), (.int xx)]) (fun _ k_ => XS.iloadN X0.here hx rfl (hb hby d47_1) rfl  k_) ?_
  refine own_sp (q := 9) (S' := []) (fun _ k_ => XS.icmpYes X0.here hx rfl (pc0 := 2) (pc' := 9) rfl (hb hby d47_2) rfl (tlt (hmin : yy < xx)).2.2.1 (by decide) (by decide) k_) ?_
  refine own_sp (q := 10) (S' := [(.int yy)]) (fun _ k_ => XS.iloadN X0.here hx rfl (hb hby d47_9) rfl  k_) ?_
  exact own_retI X0 hx hret hlk (hb hby d47_10) (by decide) (by decide) ⟨rfl, N0, e0⟩
theorem d43_0 : own_D bc43 0 (.aload_n 0) 1 := by decide +kernel
theorem d43_1 : own_D bc43 1 (.getfield 48) 3 := by decide +kernel
theorem d43_4 : own_D bc43 4 (.ifCond .ne 7) 3 := by decide +kernel
theorem d43_11 : own_D bc43 11 (.iconst 0) 1 := by decide +kernel
theorem d43_12 : own_D bc43 12 (.ireturn) 1 := by decide +kernel
def Q_alem (Z : State) (a : Addr) (sz : Int32) (h0 : Heap) (n0 : Nat) (v : Option Value) (h : Heap) (L : List Loc) : Prop := (v = some (.int (0 : Int32))) ∧ (Fr n0 L) ∧ (h = h0)
theorem rm_alem (l : Launch) (Z : State) (a0 : Array Value) (hw : own_HW a0 Z) (ws : List Jvm.Cond) (a : Addr) (sz : Int32) (h0 : Heap) (n0 : Nat) (O0 : Old Z n0 h0) (Fz : Fld Z h0 a ks6 "size" "I" (.int sz)) (hz : ¬ sz = (0 : Int32)) :
    own_MF l own_m21 (Jvm.Cond.code own_m21 bc43 1 (some .boolean) :: ws) (rm4 0 0 0 0) #[(.ref a)] Z h0 (Q_alem Z a sz h0 n0) := by
  refine own_met (own := ks6) (nme := "isEmpty") rfl rfl (plainFor_of_name pn_5) ?_
  intro p e s m below meth c s₁ hx hby hml hown hnm X0 e0 hret hlk hZ
  have N0 := Fr.nil n0
  rw [ef_abci m a]
  refine own_st (T' := s₁) (g' := (mkF m 1 #[rv a] [(.ref a)])) (fun _ k_ => XS.aloadN X0.here hx rfl (hb hby d43_0) rfl rfl  k_) ?_
  refine own_kget own_ckE X0 hx hZ hown (host := "") (Or.inl (wd hw 259 rfl)) Via.refl e0 Fz (hb hby d43_1) (q := 4) rfl fun T1 X1 e1 => ?_
  refine own_sp (q := 11) (S' := []) (fun _ k_ => XS.ifYes X1.here hx rfl (pc0 := 4) (pc' := 11) rfl (hb hby d43_4) rfl ((if0 _ _).trans (feq (hz : ¬ (sz = (0 : Int32)))).2) (by decide) (by decide) k_) ?_
  refine own_sp (q := 12) (S' := [(.int (0 : Int32))]) (fun _ k_ => XS.iconst X1.here hx rfl (hb hby d43_11) k_) ?_
  exact own_retN X1 hx (t := .boolean) hret (by simp) hlk (hb hby d43_12) (by decide) (by decide) ⟨rfl, N0, e1⟩
theorem d59_0 : own_D bc59 0 (.aload_n 0) 1 := by decide +kernel
theorem d59_1 : own_D bc59 1 (.invokespecial 1) 3 := by decide +kernel
theorem d59_4 : own_D bc59 4 (.aload_n 0) 1 := by decide +kernel
theorem d59_5 : own_D bc59 5 (.aload_n 1) 1 := by decide +kernel
theorem d59_6 : own_D bc59 6 (.invokestatic 7) 3 := by decide +kernel
theorem d59_9 : own_D bc59 9 (.putfield 13) 3 := by decide +kernel
theorem d59_12 : own_D bc59 12 (.aload_n 0) 1 := by decide +kernel
theorem d59_13 : own_D bc59 13 (.aload_n 2) 1 := by decide +kernel
theorem d59_14 : own_D bc59 14 (.invokestatic 7) 3 := by decide +kernel
theorem d59_17 : own_D bc59 17 (.putfield 24) 3 := by decide +kernel
theorem d59_20 : own_D bc59 20 (.return_) 1 := by decide +kernel
theorem pd__Ljava_lang_Object__Ljava_lang_Object_ : parseMethodDescriptor "(Ljava/lang/Object;)Ljava/lang/Object;" = some ⟨[(.object "java/lang/Object")], some (.object "java/lang/Object")⟩ := by decide +kernel
theorem pn_9 : plainName "java/util/ImmutableCollections$List12" = true := by first | (simp [plainName, overriddenIn]; done) | decide +kernel
theorem ef_l12b (m : MethodId) (x0 : Addr) (x1 : Addr) (x2 : Addr) : entryFrame m #[(.ref x0), (.ref x1), (.ref x2)] 3 = mkF m 0 #[rv x0, rv x1, rv x2] [] := rfl
def Q_l12b (Z : State) (x : Addr) (p0 : Addr) (p1 : Addr) (h0 : Heap) (n0 : Nat) (v : Option Value) (h : Heap) (L : List Loc) : Prop := (v = none) ∧ (Fr n0 L) ∧ (Keep h0 h [x]) ∧ (Exa Z h x ks4) ∧ (Fld Z h x ks4 "e0" ks12 (.ref p0)) ∧ (Fld Z h x ks4 "e1" ks12 (.ref p1))
theorem rm_l12b (l : Launch) (Z : State) (a0 : Array Value) (hw : own_HW a0 Z) (ws : List Jvm.Cond) (x : Addr) (p0 : Addr) (p1 : Addr) (h0 : Heap) (n0 : Nat) (O0 : Old Z n0 h0) (P0 : Exa Z h0 x ks4) (P1 : Fld Z h0 x ks4 "e0" ks12 .null) (P2 : Fld Z h0 x ks4 "e1" ks12 .null) (fx : n0 ≤ x) :
    own_MF l own_m22 (Jvm.Cond.code own_m22 bc59 3 none :: ws) (rm4 4 0 0 48) #[(.ref x), (.ref p0), (.ref p1)] Z h0 (Q_l12b Z x p0 p1 h0 n0) := by
  refine own_met (own := ks4) (nme := "<init>") rfl rfl (plainFor_of_name pn_9) ?_
  intro p e s m below meth c s₁ hx hby hml hown hnm X0 e0 hret hlk hZ
  have N0 := Fr.nil n0
  rw [ef_l12b m x p0 p1]
  refine own_st (T' := s₁) (g' := (mkF m 1 #[rv x, rv p0, rv p1] [(.ref x)])) (fun _ k_ => XS.aloadN X0.here hx rfl (hb hby d59_0) rfl rfl  k_) ?_
  refine own_kcI own_ckE X0 hx hZ hown hml (y := own_m18) rfl (wd hw 395 rfl) (wd hw 344 rfl) (wd hw 347 rfl) (wd hw 348 rfl) (by decide) (a := x) (rm_aili l Z a0 hw [] x h0 n0 O0) (by decide) (by decide) (W := 0) (Nat.le_of_eq rfl) (argsL := []) (rest := []) (lenOf pd___V rfl) rfl rfl (hb hby d59_1) rfl e0 (by decide) (by decide) (c' := 0) (s' := 0) rfl rfl (q := 4) rfl fun _ T1 L1 X1 hQ1 => ?_
  obtain ⟨rfl, Nq1, eq1⟩ := hQ1
  have N1 := Fr.app N0 Nq1
  show own_E p e below s _ _ _ T1 (mkF m 4 _ [])
  refine own_sp (q := 5) (S' := [(.ref x)]) (fun _ k_ => XS.aloadN X1.here hx rfl (hb hby d59_4) rfl rfl  k_) ?_
  refine own_sp (q := 6) (S' := [(.ref p0), (.ref x)]) (fun _ k_ => XS.aloadN X1.here hx rfl (hb hby d59_5) rfl rfl  k_) ?_
  refine own_kcS own_ckE X1 hx hZ hown hml (y := own_m19) (wd hw 399 rfl) (wd hw 337 rfl) (wd hw 127 rfl) (wd hw 338 rfl) (by decide) (rm_rnn l Z a0 hw [] p0 h0 n0 O0) (by decide) (by decide) (W := 1) (Nat.le_of_eq rfl) (argsL := [(.ref p0)]) (rest := [(.ref x)]) (lenOf pd__Ljava_lang_Object__Ljava_lang_Object_ rfl) rfl rfl (hb hby d59_6) rfl eq1 (by decide) (by decide) (c' := 0) (s' := 0) rfl rfl (q := 9) rfl fun _ T2 L2 X2 hQ2 => ?_
  obtain ⟨rfl, Nq2, eq2⟩ := hQ2
  have N2 := Fr.app N1 Nq2
  show own_E p e below s _ _ _ T2 (mkF m 9 _ [(.ref p0), (.ref x)])
  refine own_kput own_ckE X2 hx hZ hown (host := "") (Or.inl (wd hw 400 rfl)) Via.refl eq2 P1 P0 (Or.inr ⟨(wd hw 401 rfl), rfl, hnm⟩) (wd hw 389 rfl) (ty := (.object ks2)) (by decide) rfl rfl (hb hby d59_9) (q := 12) rfl fun T3 h3 X3 e3 W3 => ?_
  have Fw3 : Fld Z h3 x ks4 "e0" ks12 (.ref p0) := Fld.same W3 P1
  have N3 := Fr.snoc X3 N2 fx
  refine own_sp (q := 13) (S' := [(.ref x)]) (fun _ k_ => XS.aloadN X3.here hx rfl (hb hby d59_12) rfl rfl  k_) ?_
  refine own_sp (q := 14) (S' := [(.ref p1), (.ref x)]) (fun _ k_ => XS.aloadN X3.here hx rfl (hb hby d59_13) rfl rfl  k_) ?_
  have f4 := O0.wr W3 fx
  refine own_kcS own_ckE X3 hx hZ hown hml (y := own_m19) (wd hw 399 rfl) (wd hw 337 rfl) (wd hw 127 rfl) (wd hw 338 rfl) (by decide) (rm_rnn l Z a0 hw [] p1 h3 n0 f4) (by decide) (by decide) (W := 1) (Nat.le_of_eq rfl) (argsL := [(.ref p1)]) (rest := [(.ref x)]) (lenOf pd__Ljava_lang_Object__Ljava_lang_Object_ rfl) rfl rfl (hb hby d59_14) rfl e3 (by decide) (by decide) (c' := 0) (s' := 0) rfl rfl (q := 17) rfl fun _ T5 L5 X5 hQ5 => ?_
  obtain ⟨rfl, Nq5, eq5⟩ := hQ5
  have N5 := Fr.app N3 Nq5
  show own_E p e below s _ _ _ T5 (mkF m 17 _ [(.ref p1), (.ref x)])
  have f6 := P0.wr W3
  have f7 := P2.other W3 (Or.inr (slot_ne (Or.inr (wd hw 403 rfl)) (Or.inr (wd hw 401 rfl)) (by decide) (t := (.object ks2)) (t' := (.object ks2)) (by decide) (by decide)))
  refine own_kput own_ckE X5 hx hZ hown (host := "") (Or.inl (wd hw 402 rfl)) Via.refl eq5 f7 f6 (Or.inr ⟨(wd hw 403 rfl), rfl, hnm⟩) (wd hw 389 rfl) (ty := (.object ks2)) (by decide) rfl rfl (hb hby d59_17) (q := 20) rfl fun T8 h8 X8 e8 W8 => ?_
  have Fw8 : Fld Z h8 x ks4 "e1" ks12 (.ref p1) := Fld.same W8 f7
  have N8 := Fr.snoc X8 N5 fx
  have f9 := (Keep.refl h0 [x]).wr W3 (Or.inl (List.mem_of_getElem? (i := 0) rfl))
  have f10 := f9.wr W8 (Or.inl (List.mem_of_getElem? (i := 0) rfl))
  have f11 := f6.wr W8
  have f12 := Fw3.other W8 (Or.inr (slot_ne (Or.inr (wd hw 401 rfl)) (Or.inr (wd hw 403 rfl)) (by decide) (t := (.object ks2)) (t' := (.object ks2)) (by decide) (by decide)))
  exact own_retV X8 hx hret hlk (hb hby d59_20) (by decide) (by decide) (by rw [e8]; exact ⟨rfl, N8, f10, f11, f12, Fw8⟩)
theorem d63_0 : own_D bc63 0 (.aload_n 0) 1 := by decide +kernel
theorem d63_1 : own_D bc63 1 (.invokespecial 1) 3 := by decide +kernel
theorem d63_4 : own_D bc63 4 (.aload_n 0) 1 := by decide +kernel
theorem d63_5 : own_D bc63 5 (.aload_n 1) 1 := by decide +kernel
theorem d63_6 : own_D bc63 6 (.invokestatic 7) 3 := by decide +kernel
theorem d63_9 : own_D bc63 9 (.putfield 13) 3 := by decide +kernel
theorem d63_12 : own_D bc63 12 (.aload_n 0) 1 := by decide +kernel
theorem d63_13 : own_D bc63 13 (.getstatic 19) 3 := by decide +kernel
theorem d63_16 : own_D bc63 16 (.putfield 24) 3 := by decide +kernel
theorem d63_19 : own_D bc63 19 (.return_) 1 := by decide +kernel
def Q_l12a (Z : State) (x : Addr) (p0 : Addr) (em : Addr) (h0 : Heap) (n0 : Nat) (v : Option Value) (h : Heap) (L : List Loc) : Prop := (v = none) ∧ (Fr n0 L) ∧ (Keep h0 h [x]) ∧ (Exa Z h x ks4) ∧ (Fld Z h x ks4 "e0" ks12 (.ref p0)) ∧ (Fld Z h x ks4 "e1" ks12 (.ref em))
theorem rm_l12a (l : Launch) (Z : State) (a0 : Array Value) (hw : own_HW a0 Z) (ws : List Jvm.Cond) (x : Addr) (p0 : Addr) (em : Addr) (h0 : Heap) (n0 : Nat) (O0 : Old Z n0 h0) (P0 : Exa Z h0 x ks4) (P1 : Fld Z h0 x ks4 "e0" ks12 .null) (P2 : Fld Z h0 x ks4 "e1" ks12 .null) (fx : n0 ≤ x) (SEm : Sta Z Z.heap ks19 "EMPTY" ks12 (.ref em)) :
    own_MF l own_m23 (Jvm.Cond.code own_m23 bc63 2 none :: ws) (rm4 4 0 0 48) #[(.ref x), (.ref p0)] Z h0 (Q_l12a Z x p0 em h0 n0) := by
  refine own_met (own := ks4) (nme := "<init>") rfl rfl (plainFor_of_name pn_9) ?_
  intro p e s m below meth c s₁ hx hby hml hown hnm X0 e0 hret hlk hZ
  have N0 := Fr.nil n0
  rw [ef_ini1_2 m x p0]
  refine own_st (T' := s₁) (g' := (mkF m 1 #[rv x, rv p0] [(.ref x)])) (fun _ k_ => XS.aloadN X0.here hx rfl (hb hby d63_0) rfl rfl  k_) ?_
  refine own_kcI own_ckE X0 hx hZ hown hml (y := own_m18) rfl (wd hw 395 rfl) (wd hw 344 rfl) (wd hw 347 rfl) (wd hw 348 rfl) (by decide) (a := x) (rm_aili l Z a0 hw [] x h0 n0 O0) (by decide) (by decide) (W := 0) (Nat.le_of_eq rfl) (argsL := []) (rest := []) (lenOf pd___V rfl) rfl rfl (hb hby d63_1) rfl e0 (by decide) (by decide) (c' := 0) (s' := 0) rfl rfl (q := 4) rfl fun _ T1 L1 X1 hQ1 => ?_
  obtain ⟨rfl, Nq1, eq1⟩ := hQ1
  have N1 := Fr.app N0 Nq1
  show own_E p e below s _ _ _ T1 (mkF m 4 _ [])
  refine own_sp (q := 5) (S' := [(.ref x)]) (fun _ k_ => XS.aloadN X1.here hx rfl (hb hby d63_4) rfl rfl  k_) ?_
  refine own_sp (q := 6) (S' := [(.ref p0), (.ref x)]) (fun _ k_ => XS.aloadN X1.here hx rfl (hb hby d63_5) rfl rfl  k_) ?_
  refine own_kcS own_ckE X1 hx hZ hown hml (y := own_m19) (wd hw 399 rfl) (wd hw 337 rfl) (wd hw 127 rfl) (wd hw 338 rfl) (by decide) (rm_rnn l Z a0 hw [] p0 h0 n0 O0) (by decide) (by decide) (W := 1) (Nat.le_of_eq rfl) (argsL := [(.ref p0)]) (rest := [(.ref x)]) (lenOf pd__Ljava_lang_Object__Ljava_lang_Object_ rfl) rfl rfl (hb hby d63_6) rfl eq1 (by decide) (by decide) (c' := 0) (s' := 0) rfl rfl (q := 9) rfl fun _ T2 L2 X2 hQ2 => ?_
  obtain ⟨rfl, Nq2, eq2⟩ := hQ2
  have N2 := Fr.app N1 Nq2
  show own_E p e below s _ _ _ T2 (mkF m 9 _ [(.ref p0), (.ref x)])
  refine own_kput own_ckE X2 hx hZ hown (host := "") (Or.inl (wd hw 400 rfl)) Via.refl eq2 P1 P0 (Or.inr ⟨(wd hw 401 rfl), rfl, hnm⟩) (wd hw 389 rfl) (ty := (.object ks2)) (by decide) rfl rfl (hb hby d63_9) (q := 12) rfl fun T3 h3 X3 e3 W3 => ?_
  have Fw3 : Fld Z h3 x ks4 "e0" ks12 (.ref p0) := Fld.same W3 P1
  have N3 := Fr.snoc X3 N2 fx
  refine own_sp (q := 13) (S' := [(.ref x)]) (fun _ k_ => XS.aloadN X3.here hx rfl (hb hby d63_12) rfl rfl  k_) ?_
  have f4 := O0.wr W3 fx
  refine own_kgs own_ckE X3 hx hZ hown (Or.inr (wd hw 415 rfl)) Via.refl e3 (SEm.ext f4.2) (hb hby d63_13) (q := 16) rfl fun T5 X5 e5 => ?_
  have f6 := P0.wr W3
  have f7 := P2.other W3 (Or.inr (slot_ne (Or.inr (wd hw 403 rfl)) (Or.inr (wd hw 401 rfl)) (by decide) (t := (.object ks2)) (t' := (.object ks2)) (by decide) (by decide)))
  refine own_kput own_ckE X5 hx hZ hown (host := "") (Or.inl (wd hw 402 rfl)) Via.refl e5 f7 f6 (Or.inr ⟨(wd hw 403 rfl), rfl, hnm⟩) (wd hw 389 rfl) (ty := (.object ks2)) (by decide) rfl rfl (hb hby d63_16) (q := 19) rfl fun T8 h8 X8 e8 W8 => ?_
  have Fw8 : Fld Z h8 x ks4 "e1" ks12 (.ref em) := Fld.same W8 f7
  have N8 := Fr.snoc X8 N3 fx
  have f9 := (Keep.refl h0 [x]).wr W3 (Or.inl (List.mem_of_getElem? (i := 0) rfl))
  have f10 := f9.wr W8 (Or.inl (List.mem_of_getElem? (i := 0) rfl))
  have f11 := f6.wr W8
  have f12 := Fw3.other W8 (Or.inr (slot_ne (Or.inr (wd hw 401 rfl)) (Or.inr (wd hw 403 rfl)) (by decide) (t := (.object ks2)) (t' := (.object ks2)) (by decide) (by decide)))
  exact own_retV X8 hx hret hlk (hb hby d63_19) (by decide) (by decide) (by rw [e8]; exact ⟨rfl, N8, f10, f11, f12, Fw8⟩)
theorem d51_0 : own_D bc51 0 (.aload_n 0) 1 := by decide +kernel
theorem d51_1 : own_D bc51 1 (.invokespecial 1) 3 := by decide +kernel
theorem d51_4 : own_D bc51 4 (.aload_n 0) 1 := by decide +kernel
theorem d51_5 : own_D bc51 5 (.aload_n 1) 1 := by decide +kernel
theorem d51_6 : own_D bc51 6 (.putfield 7) 3 := by decide +kernel
theorem d51_9 : own_D bc51 9 (.aload_n 0) 1 := by decide +kernel
theorem d51_10 : own_D bc51 10 (.iload_n 2) 1 := by decide +kernel
theorem d51_11 : own_D bc51 11 (.putfield 13) 3 := by decide +kernel
theorem d51_14 : own_D bc51 14 (.return_) 1 := by decide +kernel
theorem pn_10 : plainName "java/util/ImmutableCollections$ListN" = true := by first | (simp [plainName, overriddenIn]; done) | decide +kernel
def Q_lni (Z : State) (x : Addr) (u : Addr) (h0 : Heap) (n0 : Nat) (v : Option Value) (h : Heap) (L : List Loc) : Prop := (v = none) ∧ (Fr n0 L) ∧ (Keep h0 h [x]) ∧ (Exa Z h x ks11) ∧ (Fld Z h x ks11 "elements" ks8 (.ref u)) ∧ (Fld Z h x ks11 "allowNulls" "Z" (.int (0 : Int32)))
theorem rm_lni (l : Launch) (Z : State) (a0 : Array Value) (hw : own_HW a0 Z) (ws : List Jvm.Cond) (x : Addr) (u : Addr) (h0 : Heap) (n0 : Nat) (O0 : Old Z n0 h0) (P0 : Exa Z h0 x ks11) (P1 : Fld Z h0 x ks11 "elements" ks8 .null) (P2 : Fld Z h0 x ks11 "allowNulls" "Z" (.int (0 : Int32))) (fx : n0 ≤ x) :
    own_MF l own_m24 (Jvm.Cond.code own_m24 bc51 3 none :: ws) (rm4 4 0 0 48) #[(.ref x), (.ref u), (.int (0 : Int32))] Z h0 (Q_lni Z x u h0 n0) := by
  refine own_met (own := ks11) (nme := "<init>") rfl rfl (plainFor_of_name pn_10) ?_
  intro p e s m below meth c s₁ hx hby hml hown hnm X0 e0 hret hlk hZ
  have N0 := Fr.nil n0
  rw [ef_inb0 m x u (0 : Int32)]
  refine own_st (T' := s₁) (g' := (mkF m 1 #[rv x, rv u, iv (0 : Int32)] [(.ref x)])) (fun _ k_ => XS.aloadN X0.here hx rfl (hb hby d51_0) rfl rfl  k_) ?_
  refine own_kcI own_ckE X0 hx hZ hown hml (y := own_m18) rfl (wd hw 343 rfl) (wd hw 344 rfl) (wd hw 347 rfl) (wd hw 348 rfl) (by decide) (a := x) (rm_aili l Z a0 hw [] x h0 n0 O0) (by decide) (by decide) (W := 0) (Nat.le_of_eq rfl) (argsL := []) (rest := []) (lenOf pd___V rfl) rfl rfl (hb hby d51_1) rfl e0 (by decide) (by decide) (c' := 0) (s' := 0) rfl rfl (q := 4) rfl fun _ T1 L1 X1 hQ1 => ?_
  obtain ⟨rfl, Nq1, eq1⟩ := hQ1
  have N1 := Fr.app N0 Nq1
  show own_E p e below s _ _ _ T1 (mkF m 4 _ [])
  refine own_sp (q := 5) (S' := [(.ref x)]) (fun _ k_ => XS.aloadN X1.here hx rfl (hb hby d51_4) rfl rfl  k_) ?_
  refine own_sp (q := 6) (S' := [(.ref u), (.ref x)]) (fun _ k_ => XS.aloadN X1.here hx rfl (hb hby d51_5) rfl rfl  k_) ?_
  refine own_kput own_ckE X1 hx hZ hown (host := "") (Or.inl (wd hw 160 rfl)) Via.refl eq1 P1 P0 (Or.inr ⟨(wd hw 161 rfl), rfl, hnm⟩) (wd hw 339 rfl) (ty := (.array (.object ks2))) (by decide) rfl rfl (hb hby d51_6) (q := 9) rfl fun T2 h2 X2 e2 W2 => ?_
  have Fw2 : Fld Z h2 x ks11 "elements" ks8 (.ref u) := Fld.same W2 P1
  have N2 := Fr.snoc X2 N1 fx
  refine own_sp (q := 10) (S' := [(.ref x)]) (fun _ k_ => XS.aloadN X2.here hx rfl (hb hby d51_9) rfl rfl  k_) ?_
  refine own_sp (q := 11) (S' := [(.int (0 : Int32)), (.ref x)]) (fun _ k_ => XS.iloadN X2.here hx rfl (hb hby d51_10) rfl  k_) ?_
  have f3 := P0.wr W2
  have f4 := P2.other W2 (Or.inr (slot_ne (Or.inr (wd hw 148 rfl)) (Or.inr (wd hw 161 rfl)) (by decide) (t := .boolean) (t' := (.array (.object ks2))) (by decide) (by decide)))
  obtain ⟨T5, h5, X5, e5, W5, st5⟩ := putFN X2 hx hZ hown (wd hw 357 rfl) Via.refl e2 f4 f3 (Or.inr ⟨(wd hw 148 rfl), rfl, hnm⟩) (wd hw 339 rfl) (ty := .boolean) (v' := (.int (0 : Int32))) (by decide) rfl (by decide) (g := (mkF m 11 #[rv x, rv u, iv (0 : Int32)] [(.int (0 : Int32)), (.ref x)])) rfl rfl (hb hby d51_11)
  have Fw5 : Fld Z h5 x ks11 "allowNulls" "Z" (.int (0 : Int32)) := Fld.same W5 f4
  have N5 := Fr.snoc X5 N2 fx
  refine own_sp (q := 14) (S' := []) st5 ?_
  clear st5
  have f6 := (Keep.refl h0 [x]).wr W2 (Or.inl (List.mem_of_getElem? (i := 0) rfl))
  have f7 := f6.wr W5 (Or.inl (List.mem_of_getElem? (i := 0) rfl))
  have f8 := f3.wr W5
  have f9 := Fw2.other W5 (Or.inr (slot_ne (Or.inr (wd hw 161 rfl)) (Or.inr (wd hw 148 rfl)) (by decide) (t := (.array (.object ks2))) (t' := .boolean) (by decide) (by decide)))
  exact own_retV X5 hx hret hlk (hb hby d51_14) (by decide) (by decide) (by rw [e5]; exact ⟨rfl, N5, f7, f8, f9, Fw5⟩)
theorem d46_0 : own_D bc46 0 (.aload_n 2) 1 := by decide +kernel
theorem d46_1 : own_D bc46 1 (.ldc 110) 2 := by decide +kernel
theorem d46_3 : own_D bc46 3 (.if_acmp .ne 10) 3 := by decide +kernel
theorem d46_6 : own_D bc46 6 (.iload_n 1) 1 := by decide +kernel
theorem d46_7 : own_D bc46 7 (.anewarray 2) 3 := by decide +kernel
theorem d46_10 : own_D bc46 10 (.goto 14) 3 := by decide +kernel
theorem d46_24 : own_D bc46 24 (.astore_n 3) 1 := by decide +kernel
theorem d46_25 : own_D bc46 25 (.aload_n 0) 1 := by decide +kernel
theorem d46_26 : own_D bc46 26 (.iconst 0) 1 := by decide +kernel
theorem d46_27 : own_D bc46 27 (.aload_n 3) 1 := by decide +kernel
theorem d46_28 : own_D bc46 28 (.iconst 0) 1 := by decide +kernel
theorem d46_29 : own_D bc46 29 (.aload_n 0) 1 := by decide +kernel
theorem d46_30 : own_D bc46 30 (.arraylength) 1 := by decide +kernel
theorem d46_31 : own_D bc46 31 (.iload_n 1) 1 := by decide +kernel
theorem d46_32 : own_D bc46 32 (.invokestatic 304) 3 := by decide +kernel
theorem d46_35 : own_D bc46 35 (.invokestatic 150) 3 := by decide +kernel
theorem d46_38 : own_D bc46 38 (.aload_n 3) 1 := by decide +kernel
theorem d46_39 : own_D bc46 39 (.areturn) 1 := by decide +kernel
theorem pn_11 : plainName "java/util/Arrays" = true := by first | (simp [plainName, overriddenIn]; done) | decide +kernel
theorem ef_cp3_1 (m : MethodId) (x0 : Addr) (x1 : Int32) (x2 : Addr) : entryFrame m #[(.ref x0), (.int x1), (.ref x2)] 4 = mkF m 0 #[rv x0, iv x1, rv x2, .unset] [] := rfl
def Q_cp3_1 (Z : State) (t : Addr) (kO : ClassId) (mir : Addr) (y0 : Addr) (h0 : Heap) (n0 : Nat) (v : Option Value) (h : Heap) (L : List Loc) : Prop := ∃ (u : Addr), (v = some (.ref u)) ∧ (Fr n0 L) ∧ (Keep h0 h []) ∧ (Arv Z h u kO (.object ks2) (1 : Int32) [(.ref y0)] .null) ∧ (h0.size ≤ u)
theorem rm_cp3_1 (l : Launch) (Z : State) (a0 : Array Value) (hw : own_HW a0 Z) (ws : List Jvm.Cond) (t : Addr) (kO : ClassId) (mir : Addr) (y0 : Addr) (h0 : Heap) (n0 : Nat) (O0 : Old Z n0 h0) (V_t : Arv Z h0 t kO (.object ks2) (10 : Int32) [(.ref y0), .null, .null, .null, .null, .null, .null, .null, .null, .null] .null) (OV : Ovr Z kO ks2) (FC : Z.vm.findClass ks8 = some kO) (MIR : own_Mir Z ks8 mir) (I_y0 : Ins Z h0 y0 ks2 true) :
    own_MF l own_m25 (Jvm.Cond.code own_m25 bc46 4 (some (.array (.object ks2))) :: ws) (rm4 1 1 1 40) #[(.ref t), (.int (1 : Int32)), (.ref mir)] Z h0 (Q_cp3_1 Z t kO mir y0 h0 n0) := by
  refine own_met (own := "java/util/Arrays") (nme := "copyOf") rfl rfl (plainFor_of_name pn_11) ?_
  intro p e s m below meth c s₁ hx hby hml hown hnm X0 e0 hret hlk hZ
  have N0 := Fr.nil n0
  rw [ef_cp3_1 m t (1 : Int32) mir]
  refine own_st (T' := s₁) (g' := (mkF m 1 #[rv t, iv (1 : Int32), rv mir, .unset] [(.ref mir)])) (fun _ k_ => XS.aloadN X0.here hx rfl (hb hby d46_0) rfl rfl  k_) ?_
  obtain ⟨T1, X1, e1, st1⟩ := own_ldk X0 hx hZ hown (wd hw 320 rfl) e0 MIR (g := (mkF m 1 #[rv t, iv (1 : Int32), rv mir, .unset] [(.ref mir)])) rfl (hb hby d46_1)
  refine own_sp (q := 3) (S' := [(.ref mir), (.ref mir)]) st1 ?_
  clear st1
  refine own_sp (q := 6) (S' := []) (fun _ k_ => Jvm.RoadKit.acmp (g := (mkF m 3 #[rv t, iv (1 : Int32), rv mir, .unset] [(.ref mir), (.ref mir)])) X1 hx rfl rfl rfl (pc0 := 3) (pc' := 6) (same := true) rfl (hb hby d46_3) rfl (decide_eq_true rfl) (by decide) (by decide) k_) ?_
  refine own_sp (q := 7) (S' := [(.int (1 : Int32))]) (fun _ k_ => XS.iloadN X1.here hx rfl (hb hby d46_6) rfl  k_) ?_
  obtain ⟨T2, h2, k2, X2, e2, E2, A2, EX2, O2, st2⟩ := newRE X1 hx hZ hown (wd hw 321 rfl) (wd hw 281 rfl) e1 (g := (mkF m 7 #[rv t, iv (1 : Int32), rv mir, .unset] [(.int (1 : Int32))])) rfl (hb hby d46_7) rfl (by decide) (cap := 1) (by decide) (by decide) (by decide) (by decide) (ad := ks8) (by decide)
  obtain rfl : kO = k2 := own_kk EX2 A2 FC
  clear EX2 O2
  obtain ⟨b2, g2⟩ : ∃ z, z = h0.size := ⟨_, rfl⟩
  rw [← g2] at A2 st2
  have fr2 : n0 ≤ b2 := Nat.le_trans (own_z O0) (Nat.le_of_eq g2.symm)
  have sz2 : h0.size ≤ b2 := Nat.le_trans (Keep.refl h0 []).1 (Nat.le_of_eq g2.symm)
  have V2 : Arv Z h2 b2 kO (.object ks2) (1 : Int32) [.null] .null := (Arv.new A2 (by decide)).pad (pad_rep [] .null 1)
  refine own_sp (q := 10) (S' := [(.ref b2)]) st2 ?_
  clear st2
  refine own_sp (q := 24) (S' := [(.ref b2)]) (fun _ k_ => XS.goto X2.here hx rfl (pc0 := 10) (pc' := 24) rfl (hb hby d46_10) (by decide) (by decide) k_) ?_
  refine own_st (T' := T2) (g' := (mkF m 25 #[rv t, iv (1 : Int32), rv mir, rv b2] [])) (fun _ k_ => XS.astoreN X2.here hx rfl (hb hby d46_24) rfl rfl (l' := #[rv t, iv (1 : Int32), rv mir, rv b2]) rfl k_) ?_
  refine own_sp (q := 26) (S' := [(.ref t)]) (fun _ k_ => XS.aloadN X2.here hx rfl (hb hby d46_25) rfl rfl  k_) ?_
  refine own_sp (q := 27) (S' := [(.int (0 : Int32)), (.ref t)]) (fun _ k_ => XS.iconst X2.here hx rfl (hb hby d46_26) k_) ?_
  refine own_sp (q := 28) (S' := [(.ref b2), (.int (0 : Int32)), (.ref t)]) (fun _ k_ => XS.aloadN X2.here hx rfl (hb hby d46_27) rfl rfl  k_) ?_
  refine own_sp (q := 29) (S' := [(.int (0 : Int32)), (.ref b2), (.int (0 : Int32)), (.ref t)]) (fun _ k_ => XS.iconst X2.here hx rfl (hb hby d46_28) k_) ?_
  refine own_sp (q := 30) (S' := [(.ref t), (.int (0 : Int32)), (.ref b2), (.int (0 : Int32)), (.ref t)]) (fun _ k_ => XS.aloadN X2.here hx rfl (hb hby d46_29) rfl rfl  k_) ?_
  have f4 := V_t.ext E2
  obtain ⟨cl3, Ar3, -, S3, N3, -, -⟩ := id f4
  refine own_sp (q := 31) (S' := [(.int (10 : Int32)), (.int (0 : Int32)), (.ref b2), (.int (0 : Int32)), (.ref t)]) (fun t_ k_ => X2.arraylength hx (by rw [e2]; exact Ar3.1) (State.isArrayOf_alike hZ.alike Ar3.2.1) (g := (mkF m 30 #[rv t, iv (1 : Int32), rv mir, rv b2] [(.ref t), (.int (0 : Int32)), (.ref b2), (.int (0 : Int32)), (.ref t)])) rfl rfl (hb hby d46_30) _ (by rw [len_of S3 N3]; exact k_)) ?_
  refine own_sp (q := 32) (S' := [(.int (1 : Int32)), (.int (10 : Int32)), (.int (0 : Int32)), (.ref b2), (.int (0 : Int32)), (.ref t)]) (fun _ k_ => XS.iloadN X2.here hx rfl (hb hby d46_31) rfl  k_) ?_
  have f5 := O0.ext E2
  refine own_kcS own_ckE X2 hx hZ hown hml (y := own_m20) (wd hw 322 rfl) (wd hw 323 rfl) (wd hw 278 rfl) (wd hw 324 rfl) (by decide) (rm_min l Z a0 hw [] (10 : Int32) (1 : Int32) h2 n0 f5 (by decide)) (by decide) (by decide) (W := 4) (Nat.le_of_eq rfl) (argsL := [(.int (10 : Int32)), (.int (1 : Int32))]) (rest := [(.int (0 : Int32)), (.ref b2), (.int (0 : Int32)), (.ref t)]) (lenOf pd__II_I rfl) rfl rfl (hb hby d46_32) rfl e2 (by decide) (by decide) (c' := 1) (s' := 1) rfl rfl (q := 35) rfl fun _ T6 L6 X6 hQ6 => ?_
  obtain ⟨rfl, Nq6, eq6⟩ := hQ6
  have N6 := Fr.app N0 Nq6
  show own_E p e below s _ _ _ T6 (mkF m 35 _ [(.int (1 : Int32)), (.int (0 : Int32)), (.ref b2), (.int (0 : Int32)), (.ref t)])
  obtain ⟨cl7, Ar7, q7, -⟩ := id V2
  have f8 := Ins.ext E2 I_y0
  obtain ⟨T7, h7, L7, X7, e7, N7, K7, Va7, st7⟩ := cpA X6 hx hZ hown (wd hw 325 rfl) (wd hw 328 rfl) (wd hw 326 rfl) (wd hw 327 rfl) eq6 f4 V2 (sp := (0 : Int32)) (dp := (0 : Int32)) (nn := (1 : Int32)) (us := [(.ref y0)]) (Or.inr ⟨rfl, rfl, ⟨Sto.ofV Ar7 q7 OV f8, trivial⟩⟩) (by decide) (by decide) (by decide) (by decide) (by decide) rfl (Nat.le_of_ble_eq_true rfl) N6 fr2 (g := (mkF m 35 #[rv t, iv (1 : Int32), rv mir, rv b2] [(.int (1 : Int32)), (.int (0 : Int32)), (.ref b2), (.int (0 : Int32)), (.ref t)])) rfl (by rw [hml]; rfl) (rest := []) rfl (hb hby d46_35) (by decide) (W := 0) (by show 2 * 0 + _ ≤ _; exact Nat.le_of_eq rfl) (by decide)
  clear Ar7 q7 cl7
  have V7 : Arv Z h7 b2 kO (.object ks2) (1 : Int32) [(.ref y0)] .null := Va7
  refine own_sp (q := 38) (S' := []) st7 ?_
  clear st7
  refine own_sp (q := 39) (S' := [(.ref b2)]) (fun _ k_ => XS.aloadN X7.here hx rfl (hb hby d46_38) rfl rfl  k_) ?_
  have f9 := (Keep.refl h0 []).ext E2
  have f10 := f9.trans K7 (allS (Or.inr sz2) all0)
  exact own_retA X7 hx hret rfl rfl hlk (hb hby d46_39) (by decide) (by decide) (by rw [e7]; exact ⟨b2, rfl, N7, f10, V7, sz2⟩)
theorem d45_0 : own_D bc45 0 (.aload_n 0) 1 := by decide +kernel
theorem d45_1 : own_D bc45 1 (.iload_n 1) 1 := by decide +kernel
theorem d45_2 : own_D bc45 2 (.aload_n 0) 1 := by decide +kernel
theorem d45_3 : own_D bc45 3 (.invokevirtual 86) 3 := by decide +kernel
theorem d45_6 : own_D bc45 6 (.invokestatic 300) 3 := by decide +kernel
theorem d45_9 : own_D bc45 9 (.areturn) 1 := by decide +kernel
theorem pd___Ljava_lang_Object_ILjava_lang_Class___Ljava_lang_Object_ : parseMethodDescriptor "([Ljava/lang/Object;ILjava/lang/Class;)[Ljava/lang/Object;" = some ⟨[(.array (.object "java/lang/Object")), .int, (.object "java/lang/Class")], some (.array (.object "java/lang/Object"))⟩ := by decide +kernel
def Q_cp2_1 (Z : State) (t : Addr) (kO : ClassId) (mir : Addr) (y0 : Addr) (h0 : Heap) (n0 : Nat) (v : Option Value) (h : Heap) (L : List Loc) : Prop := ∃ (u : Addr), (v = some (.ref u)) ∧ (Fr n0 L) ∧ (Keep h0 h []) ∧ (Arv Z h u kO (.object ks2) (1 : Int32) [(.ref y0)] .null) ∧ (h0.size ≤ u)
theorem rm_cp2_1 (l : Launch) (Z : State) (a0 : Array Value) (hw : own_HW a0 Z) (ws : List Jvm.Cond) (t : Addr) (kO : ClassId) (mir : Addr) (y0 : Addr) (h0 : Heap) (n0 : Nat) (O0 : Old Z n0 h0) (V_t : Arv Z h0 t kO (.object ks2) (10 : Int32) [(.ref y0), .null, .null, .null, .null, .null, .null, .null, .null, .null] .null) (OV : Ovr Z kO ks2) (FC : Z.vm.findClass ks8 = some kO) (MIR : own_Mir Z ks8 mir) (I_y0 : Ins Z h0 y0 ks2 true) :
    own_MF l own_m26 (Jvm.Cond.code own_m26 bc45 2 (some (.array (.object ks2))) :: ws) (rm4 2 1 1 55) #[(.ref t), (.int (1 : Int32))] Z h0 (Q_cp2_1 Z t kO mir y0 h0 n0) := by
  refine own_met (own := "java/util/Arrays") (nme := "copyOf") rfl rfl (plainFor_of_name pn_11) ?_
  intro p e s m below meth c s₁ hx hby hml hown hnm X0 e0 hret hlk hZ
  have N0 := Fr.nil n0
  rw [ef_cdr_2 m t (1 : Int32)]
  refine own_st (T' := s₁) (g' := (mkF m 1 #[rv t, iv (1 : Int32)] [(.ref t)])) (fun _ k_ => XS.aloadN X0.here hx rfl (hb hby d45_0) rfl rfl  k_) ?_
  refine own_sp (q := 2) (S' := [(.int (1 : Int32)), (.ref t)]) (fun _ k_ => XS.iloadN X0.here hx rfl (hb hby d45_1) rfl  k_) ?_
  refine own_sp (q := 3) (S' := [(.ref t), (.int (1 : Int32)), (.ref t)]) (fun _ k_ => XS.aloadN X0.here hx rfl (hb hby d45_2) rfl rfl  k_) ?_
  obtain ⟨T1, X1, e1, st1⟩ := own_gcls X0 hx hZ hown (wd hw 311 rfl) (wd hw 312 rfl) (wd hw 144 rfl) (wd hw 314 rfl) (wd hw 313 rfl) (wd hw 315 rfl) e0 (own_exaArv V_t FC) MIR (g := (mkF m 3 #[rv t, iv (1 : Int32)] [(.ref t), (.int (1 : Int32)), (.ref t)])) rfl (by rw [hml]; rfl) (rest := [(.int (1 : Int32)), (.ref t)]) rfl (hb hby d45_3) (by decide) (W := 2) (by show 2 * 0 + _ ≤ _; exact Nat.le_of_eq rfl) (by decide)
  refine own_sp (q := 6) (S' := [(.ref mir), (.int (1 : Int32)), (.ref t)]) st1 ?_
  clear st1
  refine own_kcS own_ckE X1 hx hZ hown hml (y := own_m25) (wd hw 317 rfl) (wd hw 318 rfl) (wd hw 309 rfl) (wd hw 319 rfl) (by decide) (rm_cp3_1 l Z a0 hw [] t kO mir y0 h0 n0 O0 V_t OV FC MIR I_y0) (by decide) (by decide) (W := 0) (Nat.le_of_eq rfl) (argsL := [(.ref t), (.int (1 : Int32)), (.ref mir)]) (rest := []) (lenOf pd___Ljava_lang_Object_ILjava_lang_Class___Ljava_lang_Object_ rfl) rfl rfl (hb hby d45_6) rfl e1 (by decide) (by decide) (c' := 1) (s' := 1) rfl rfl (q := 9) rfl fun _ T2 L2 X2 hQ2 => ?_
  obtain ⟨u2, rfl, Nq2, K2, fq2_0, xq2_fresh_u⟩ := hQ2
  have N2 := Fr.app N0 Nq2
  show own_E p e below s _ _ _ T2 (mkF m 9 _ [(.ref u2)])
  have f3 := (Keep.refl h0 []).trans K2 all0
  exact own_retA X2 hx hret rfl rfl hlk (hb hby d45_9) (by decide) (by decide) ⟨u2, rfl, N2, f3, fq2_0, (Nat.le_trans (Keep.refl h0 []).1 xq2_fresh_u)⟩
theorem d44_0 : own_D bc44 0 (.aload_n 0) 1 := by decide +kernel
theorem d44_1 : own_D bc44 1 (.getfield 9) 3 := by decide +kernel
theorem d44_4 : own_D bc44 4 (.aload_n 0) 1 := by decide +kernel
theorem d44_5 : own_D bc44 5 (.getfield 48) 3 := by decide +kernel
theorem d44_8 : own_D bc44 8 (.invokestatic 66) 3 := by decide +kernel
theorem d44_11 : own_D bc44 11 (.areturn) 1 := by decide +kernel
theorem pd___Ljava_lang_Object_I__Ljava_lang_Object_ : parseMethodDescriptor "([Ljava/lang/Object;I)[Ljava/lang/Object;" = some ⟨[(.array (.object "java/lang/Object")), .int], some (.array (.object "java/lang/Object"))⟩ := by decide +kernel
def Q_tar_1 (Z : State) (a : Addr) (t : Addr) (kO : ClassId) (mir : Addr) (y0 : Addr) (h0 : Heap) (n0 : Nat) (v : Option Value) (h : Heap) (L : List Loc) : Prop := ∃ (u : Addr), (v = some (.ref u)) ∧ (Fr n0 L) ∧ (Keep h0 h []) ∧ (Arv Z h u kO (.object ks2) (1 : Int32) [(.ref y0)] .null) ∧ (h0.size ≤ u)
theorem rm_tar_1 (l : Launch) (Z : State) (a0 : Array Value) (hw : own_HW a0 Z) (ws : List Jvm.Cond) (a : Addr) (t : Addr) (kO : ClassId) (mir : Addr) (y0 : Addr) (h0 : Heap) (n0 : Nat) (O0 : Old Z n0 h0) (Fe : Fld Z h0 a ks6 ks20 ks8 (.ref t)) (Fz : Fld Z h0 a ks6 "size" "I" (.int (1 : Int32))) (V_t : Arv Z h0 t kO (.object ks2) (10 : Int32) [(.ref y0), .null, .null, .null, .null, .null, .null, .null, .null, .null] .null) (OV : Ovr Z kO ks2) (FC : Z.vm.findClass ks8 = some kO) (MIR : own_Mir Z ks8 mir) (I_y0 : Ins Z h0 y0 ks2 true) :
    own_MF l own_m27 (Jvm.Cond.code own_m27 bc44 1 (some (.array (.object ks2))) :: ws) (rm4 3 1 1 68) #[(.ref a)] Z h0 (Q_tar_1 Z a t kO mir y0 h0 n0) := by
  refine own_met (own := ks6) (nme := "toArray") rfl rfl (plainFor_of_name pn_5) ?_
  intro p e s m below meth c s₁ hx hby hml hown hnm X0 e0 hret hlk hZ
  have N0 := Fr.nil n0
  rw [ef_abci m a]
  refine own_st (T' := s₁) (g' := (mkF m 1 #[rv a] [(.ref a)])) (fun _ k_ => XS.aloadN X0.here hx rfl (hb hby d44_0) rfl rfl  k_) ?_
  refine own_kget own_ckE X0 hx hZ hown (host := "") (Or.inl (wd hw 93 rfl)) Via.refl e0 Fe (hb hby d44_1) (q := 4) rfl fun T1 X1 e1 => ?_
  refine own_sp (q := 5) (S' := [(.ref a), (.ref t)]) (fun _ k_ => XS.aloadN X1.here hx rfl (hb hby d44_4) rfl rfl  k_) ?_
  refine own_kget own_ckE X1 hx hZ hown (host := "") (Or.inl (wd hw 259 rfl)) Via.refl e1 Fz (hb hby d44_5) (q := 8) rfl fun T2 X2 e2 => ?_
  refine own_kcS own_ckE X2 hx hZ hown hml (y := own_m26) (wd hw 307 rfl) (wd hw 308 rfl) (wd hw 309 rfl) (wd hw 310 rfl) (by decide) (rm_cp2_1 l Z a0 hw [] t kO mir y0 h0 n0 O0 V_t OV FC MIR I_y0) (by decide) (by decide) (W := 0) (Nat.le_of_eq rfl) (argsL := [(.ref t), (.int (1 : Int32))]) (rest := []) (lenOf pd___Ljava_lang_Object_I__Ljava_lang_Object_ rfl) rfl rfl (hb hby d44_8) rfl e2 (by decide) (by decide) (c' := 1) (s' := 1) rfl rfl (q := 11) rfl fun _ T3 L3 X3 hQ3 => ?_
  obtain ⟨u3, rfl, Nq3, K3, fq3_0, xq3_fresh_u⟩ := hQ3
  have N3 := Fr.app N0 Nq3
  show own_E p e below s _ _ _ T3 (mkF m 11 _ [(.ref u3)])
  have f4 := (Keep.refl h0 []).trans K3 all0
  exact own_retA X3 hx hret rfl rfl hlk (hb hby d44_11) (by decide) (by decide) ⟨u3, rfl, N3, f4, fq3_0, (Nat.le_trans (Keep.refl h0 []).1 xq3_fresh_u)⟩
theorem d48_0 : own_D bc48 0 (.aload_n 0) 1 := by decide +kernel
theorem d48_1 : own_D bc48 1 (.arraylength) 1 := by decide +kernel
theorem d48_2 : own_D bc48 2 (.tableswitch 57 0 2 #[26, 32, 43]) 26 := by decide +kernel
theorem d48_34 : own_D bc48 34 (.new 96) 3 := by decide +kernel
theorem d48_37 : own_D bc48 37 (.dup) 1 := by decide +kernel
theorem d48_38 : own_D bc48 38 (.aload_n 0) 1 := by decide +kernel
theorem d48_39 : own_D bc48 39 (.iconst 0) 1 := by decide +kernel
theorem d48_40 : own_D bc48 40 (.aaload) 1 := by decide +kernel
theorem d48_41 : own_D bc48 41 (.invokespecial 98) 3 := by decide +kernel
theorem d48_44 : own_D bc48 44 (.areturn) 1 := by decide +kernel
theorem pd__Ljava_lang_Object__V : parseMethodDescriptor "(Ljava/lang/Object;)V" = some ⟨[(.object "java/lang/Object")], none⟩ := by decide +kernel
theorem pn_12 : plainName "java/util/List" = true := by first | (simp [plainName, overriddenIn]; done) | decide +kernel
theorem ef_lof_1 (m : MethodId) (x0 : Addr) : entryFrame m #[(.ref x0)] 2 = mkF m 0 #[rv x0, .unset] [] := rfl
def Q_lof_1 (Z : State) (u : Addr) (kO : ClassId) (em : Addr) (y0 : Addr) (h0 : Heap) (n0 : Nat) (v : Option Value) (h : Heap) (L : List Loc) : Prop := ∃ (x : Addr), (v = some (.ref x)) ∧ (Fr n0 L) ∧ (Keep h0 h []) ∧ (Exa Z h x ks4) ∧ (Fld Z h x ks4 "e0" ks12 (.ref y0)) ∧ (Fld Z h x ks4 "e1" ks12 (.ref em)) ∧ (h0.size ≤ x)
theorem rm_lof_1 (l : Launch) (Z : State) (a0 : Array Value) (hw : own_HW a0 Z) (ws : List Jvm.Cond) (u : Addr) (kO : ClassId) (em : Addr) (y0 : Addr) (h0 : Heap) (n0 : Nat) (O0 : Old Z n0 h0) (V_u : Arv Z h0 u kO (.object ks2) (1 : Int32) [(.ref y0)] .null) (OV : Ovr Z kO ks2) (FC : Z.vm.findClass ks8 = some kO) (SEm : Sta Z Z.heap ks19 "EMPTY" ks12 (.ref em)) (I_y0 : Ins Z h0 y0 ks2 true) :
    own_MF l own_m28 (Jvm.Cond.code own_m28 bc48 2 (some (.object ks18)) :: ws) (rm4 5 1 2 62) #[(.ref u)] Z h0 (Q_lof_1 Z u kO em y0 h0 n0) := by
  refine own_met (own := ks18) (nme := "of") rfl rfl (plainFor_of_name pn_12) ?_
  intro p e s m below meth c s₁ hx hby hml hown hnm X0 e0 hret hlk hZ
  have N0 := Fr.nil n0
  rw [ef_lof_1 m u]
  refine own_st (T' := s₁) (g' := (mkF m 1 #[rv u, .unset] [(.ref u)])) (fun _ k_ => XS.aloadN X0.here hx rfl (hb hby d48_0) rfl rfl  k_) ?_
  obtain ⟨cl1, Ar1, -, S1, N1, -, -⟩ := id V_u
  refine own_sp (q := 2) (S' := [(.int (1 : Int32))]) (fun t_ k_ => X0.arraylength hx (by rw [e0]; exact Ar1.1) (State.isArrayOf_alike hZ.alike Ar1.2.1) (g := (mkF m 1 #[rv u, .unset] [(.ref u)])) rfl rfl (hb hby d48_1) _ (by rw [len_of S1 N1]; exact k_)) ?_
  refine own_sp (q := 34) (S' := []) (fun t_ k_ => X0.tableswitchIn hx (g := (mkF m 2 #[rv u, .unset] [(.int (1 : Int32))])) rfl (k := (1 : Int32)) (rest := []) rfl (hb hby d48_2) (by decide) (off := 32) rfl (show (0 : Int) ≤ ((2 : Nat) : Int) + 32 by decide) _ k_) ?_
  obtain ⟨T2, h2, X2, e2, E2, A2, D2, -, st2⟩ := newO X0 hx hZ hown (wd hw 388 rfl) (wd hw 389 rfl) (wd hw 390 rfl) e0 (g := (mkF m 34 #[rv u, .unset] [])) rfl (hb hby d48_34) (by decide) (by decide)
  obtain ⟨b2, g2⟩ : ∃ z, z = h0.size := ⟨_, rfl⟩
  rw [← g2] at A2 D2 st2
  have fr2 : n0 ≤ b2 := Nat.le_trans (own_z O0) (Nat.le_of_eq g2.symm)
  have sz2 : h0.size ≤ b2 := Nat.le_trans (Keep.refl h0 []).1 (Nat.le_of_eq g2.symm)
  have F2_e0 : Fld Z h2 b2 ks4 "e0" ks12 .null := D2 (Or.inr (wd hw 401 rfl)) (ty := (.object ks2)) (by decide)
  have F2_e1 : Fld Z h2 b2 ks4 "e1" ks12 .null := D2 (Or.inr (wd hw 403 rfl)) (ty := (.object ks2)) (by decide)
  refine own_sp (q := 37) (S' := [(.ref b2)]) st2 ?_
  clear st2
  refine own_sp (q := 38) (S' := [(.ref b2), (.ref b2)]) (fun _ k_ => XS.dup X2.here hx rfl (hb hby d48_37) rfl rfl k_) ?_
  refine own_sp (q := 39) (S' := [(.ref u), (.ref b2), (.ref b2)]) (fun _ k_ => XS.aloadN X2.here hx rfl (hb hby d48_38) rfl rfl  k_) ?_
  refine own_sp (q := 40) (S' := [(.int (0 : Int32)), (.ref u), (.ref b2), (.ref b2)]) (fun _ k_ => XS.iconst X2.here hx rfl (hb hby d48_39) k_) ?_
  have f3 := V_u.ext E2
  obtain ⟨cl4, Ar4, q4, S4, N4, H4, G4⟩ := id f3
  have hin4 : ¬ ((0 : Int32) < 0 ∨ cl4.slots.size ≤ ((0 : Int32)).toNatClampNeg) := inb_of S4 ⟨by decide, by decide⟩
  refine own_sp (q := 41) (S' := [(.ref y0), (.ref b2), (.ref b2)]) (X2.aaload hx (j := (0 : Int32)) (v := (.ref y0)) (by rw [e2]; exact Ar4.1) (State.isArrayOf_alike hZ.alike Ar4.2.1) rfl Ar4.2.2 hin4 (H4.at hin4 rfl) (g := (mkF m 40 #[rv u, .unset] [(.int (0 : Int32)), (.ref u), (.ref b2), (.ref b2)])) rfl rfl (hb hby d48_40)) ?_
  clear hin4 G4 H4 N4 S4 q4 Ar4 cl4
  have f5 := O0.ext E2
  refine own_kcI own_ckE X2 hx hZ hown hml (y := own_m23) rfl (wd hw 421 rfl) (wd hw 422 rfl) (wd hw 390 rfl) (wd hw 423 rfl) (by decide) (a := b2) (rm_l12a l Z a0 hw [] b2 y0 em h2 n0 f5 A2 F2_e0 F2_e1 fr2 SEm) (by decide) (by decide) (W := 1) (Nat.le_of_eq rfl) (argsL := [(.ref y0)]) (rest := [(.ref b2)]) (lenOf pd__Ljava_lang_Object__V rfl) rfl rfl (hb hby d48_41) rfl e2 (by decide) (by decide) (c' := 1) (s' := 2) rfl rfl (q := 44) rfl fun _ T6 L6 X6 hQ6 => ?_
  obtain ⟨rfl, Nq6, K6, fq6_0, fq6_1, fq6_2⟩ := hQ6
  have N6 := Fr.app N0 Nq6
  show own_E p e below s _ _ _ T6 (mkF m 44 _ [(.ref b2)])
  have f7 := (Keep.refl h0 []).ext E2
  have f8 := f7.trans K6 (allS (Or.inr sz2) all0)
  exact own_retA X6 hx hret rfl rfl hlk (hb hby d48_44) (by decide) (by decide) ⟨b2, rfl, N6, f8, fq6_0, fq6_1, fq6_2, sz2⟩
theorem d21_0 : own_D bc21 0 (.aload_n 0) 1 := by decide +kernel
theorem d21_1 : own_D bc21 1 (.instanceof 10) 3 := by decide +kernel
theorem d21_4 : own_D bc21 4 (.ifCond .ne 22) 3 := by decide +kernel
theorem d21_7 : own_D bc21 7 (.aload_n 0) 1 := by decide +kernel
theorem d21_8 : own_D bc21 8 (.instanceof 12) 3 := by decide +kernel
theorem d21_11 : own_D bc21 11 (.ifCond .eq 20) 3 := by decide +kernel
theorem d21_31 : own_D bc21 31 (.aload_n 0) 1 := by decide +kernel
theorem d21_32 : own_D bc21 32 (.invokeinterface 20 1) 5 := by decide +kernel
theorem d21_37 : own_D bc21 37 (.ifCond .eq 7) 3 := by decide +kernel
theorem d21_44 : own_D bc21 44 (.aload_n 0) 1 := by decide +kernel
theorem d21_45 : own_D bc21 45 (.invokeinterface 30 1) 5 := by decide +kernel
theorem d21_50 : own_D bc21 50 (.invokestatic 34) 3 := by decide +kernel
theorem d21_53 : own_D bc21 53 (.areturn) 1 := by decide +kernel
theorem pd___Z : parseMethodDescriptor "()Z" = some ⟨[], some .boolean⟩ := by decide +kernel
theorem pd___Ljava_lang_Object__Ljava_util_List_ : parseMethodDescriptor "([Ljava/lang/Object;)Ljava/util/List;" = some ⟨[(.array (.object "java/lang/Object"))], some (.object "java/util/List")⟩ := by decide +kernel
theorem pn_13 : plainName "java/util/ImmutableCollections" = true := by first | (simp [plainName, overriddenIn]; done) | decide +kernel
def Q_lcp_1 (Z : State) (a : Addr) (t : Addr) (kO : ClassId) (mir : Addr) (em : Addr) (y0 : Addr) (h0 : Heap) (n0 : Nat) (v : Option Value) (h : Heap) (L : List Loc) : Prop := ∃ (x : Addr), (v = some (.ref x)) ∧ (Fr n0 L) ∧ (Keep h0 h []) ∧ (Exa Z h x ks4) ∧ (Fld Z h x ks4 "e0" ks12 (.ref y0)) ∧ (Fld Z h x ks4 "e1" ks12 (.ref em)) ∧ (h0.size ≤ x)
theorem rm_lcp_1 (l : Launch) (Z : State) (a0 : Array Value) (hw : own_HW a0 Z) (ws : List Jvm.Cond) (a : Addr) (t : Addr) (kO : ClassId) (mir : Addr) (em : Addr) (y0 : Addr) (h0 : Heap) (n0 : Nat) (O0 : Old Z n0 h0) (E_a : Exa Z h0 a ks6) (Fe : Fld Z h0 a ks6 ks20 ks8 (.ref t)) (Fz : Fld Z h0 a ks6 "size" "I" (.int (1 : Int32))) (V_t : Arv Z h0 t kO (.object ks2) (10 : Int32) [(.ref y0), .null, .null, .null, .null, .null, .null, .null, .null, .null] .null) (OV : Ovr Z kO ks2) (FC : Z.vm.findClass ks8 = some kO) (MIR : own_Mir Z ks8 mir) (SEm : Sta Z Z.heap ks19 "EMPTY" ks12 (.ref em)) (I_y0 : Ins Z h0 y0 ks2 true) :
    own_MF l own_m31 (Jvm.Cond.code own_m31 bc21 2 (some (.object ks18)) :: ws) (rm4 6 2 3 80) #[(.ref a)] Z h0 (Q_lcp_1 Z a t kO mir em y0 h0 n0) := by
  refine own_met (own := ks19) (nme := "listCopy") rfl rfl (plainFor_of_name pn_13) ?_
  intro p e s m below meth c s₁ hx hby hml hown hnm X0 e0 hret hlk hZ
  have N0 := Fr.nil n0
  rw [ef_lof_1 m a]
  refine own_st (T' := s₁) (g' := (mkF m 1 #[rv a, .unset] [(.ref a)])) (fun _ k_ => XS.aloadN X0.here hx rfl (hb hby d21_0) rfl rfl  k_) ?_
  obtain ⟨T1, X1, e1, st1⟩ := instNo X0 hx hZ hown (wd hw 139 rfl) e0 E_a (own_no0 hw) (g := (mkF m 1 #[rv a, .unset] [(.ref a)])) rfl rfl (hb hby d21_1)
  refine own_sp (q := 4) (S' := [(.int (0 : Int32))]) st1 ?_
  clear st1
  refine own_sp (q := 7) (S' := []) (fun _ k_ => XS.ifNo X1.here hx rfl (hb hby d21_4) rfl ((if0 _ _).trans (teq (rfl : (0 : Int32) = (0 : Int32))).2) k_) ?_
  refine own_sp (q := 8) (S' := [(.ref a)]) (fun _ k_ => XS.aloadN X1.here hx rfl (hb hby d21_7) rfl rfl  k_) ?_
  obtain ⟨T2, X2, e2, st2⟩ := instNo X1 hx hZ hown (wd hw 145 rfl) e1 E_a (own_no1 hw) (g := (mkF m 8 #[rv a, .unset] [(.ref a)])) rfl rfl (hb hby d21_8)
  refine own_sp (q := 11) (S' := [(.int (0 : Int32))]) st2 ?_
  clear st2
  refine own_sp (q := 31) (S' := []) (fun _ k_ => XS.ifYes X2.here hx rfl (pc0 := 11) (pc' := 31) rfl (hb hby d21_11) rfl ((if0 _ _).trans (teq (rfl : (0 : Int32) = (0 : Int32))).1) (by decide) (by decide) k_) ?_
  refine own_sp (q := 32) (S' := [(.ref a)]) (fun _ k_ => XS.aloadN X2.here hx rfl (hb hby d21_31) rfl rfl  k_) ?_
  refine own_kcF own_ckE X2 hx hZ hown hml (z := own_m29) (y := own_m21) (wd hw 290 rfl) (wd hw 291 rfl) (mvT hZ (wd hw 292 rfl)) (wd hw 293 rfl) (wd hw 294 rfl) (wd hw 295 rfl) (wd hw 296 rfl) (wd hw 297 rfl) (wd hw 73 rfl) (wd hw 298 rfl) (by decide) E_a (rm_alem l Z a0 hw [] a (1 : Int32) h0 n0 O0 Fz (by decide)) (by decide) (by decide) (W := 0) (Nat.le_of_eq rfl) (argsL := []) (rest := []) (lenOf pd___Z rfl) rfl rfl (hb hby d21_32) rfl e2 (by decide) (by decide) (c' := 0) (s' := 0) rfl rfl (q := 37) rfl fun _ T3 L3 X3 hQ3 => ?_
  obtain ⟨rfl, Nq3, eq3⟩ := hQ3
  have N3 := Fr.app N0 Nq3
  show own_E p e below s _ _ _ T3 (mkF m 37 _ [(.int (0 : Int32))])
  refine own_sp (q := 44) (S' := []) (fun _ k_ => XS.ifYes X3.here hx rfl (pc0 := 37) (pc' := 44) rfl (hb hby d21_37) rfl ((if0 _ _).trans (teq (rfl : (0 : Int32) = (0 : Int32))).1) (by decide) (by decide) k_) ?_
  refine own_sp (q := 45) (S' := [(.ref a)]) (fun _ k_ => XS.aloadN X3.here hx rfl (hb hby d21_44) rfl rfl  k_) ?_
  refine own_kcF own_ckE X3 hx hZ hown hml (z := own_m30) (y := own_m27) (wd hw 299 rfl) (wd hw 300 rfl) (mvT hZ (wd hw 301 rfl)) (wd hw 302 rfl) (wd hw 303 rfl) (wd hw 304 rfl) (wd hw 305 rfl) (wd hw 297 rfl) (wd hw 73 rfl) (wd hw 306 rfl) (by decide) E_a (rm_tar_1 l Z a0 hw [] a t kO mir y0 h0 n0 O0 Fe Fz V_t OV FC MIR I_y0) (by decide) (by decide) (W := 0) (Nat.le_of_eq rfl) (argsL := []) (rest := []) (lenOf pd____Ljava_lang_Object_ rfl) rfl rfl (hb hby d21_45) rfl eq3 (by decide) (by decide) (c' := 1) (s' := 1) rfl rfl (q := 50) rfl fun _ T4 L4 X4 hQ4 => ?_
  obtain ⟨u4, rfl, Nq4, K4, fq4_0, xq4_fresh_u⟩ := hQ4
  have N4 := Fr.app N3 Nq4
  show own_E p e below s _ _ _ T4 (mkF m 50 _ [(.ref u4)])
  have f5 := own_insK I_y0 K4
  have f6 := O0.keep K4 all0
  have f7 := (Keep.refl h0 []).trans K4 all0
  refine own_kcS own_ckE X4 hx hZ hown hml (y := own_m28) (wd hw 329 rfl) (wd hw 330 rfl) (wd hw 103 rfl) (wd hw 331 rfl) (by decide) (rm_lof_1 l Z a0 hw [] u4 kO em y0 T4.heap n0 f6 fq4_0 OV FC SEm f5) (by decide) (by decide) (W := 0) (Nat.le_of_eq rfl) (argsL := [(.ref u4)]) (rest := []) (lenOf pd___Ljava_lang_Object__Ljava_util_List_ rfl) rfl rfl (hb hby d21_50) rfl rfl (by decide) (by decide) (c' := 2) (s' := 3) rfl rfl (q := 53) rfl fun _ T8 L8 X8 hQ8 => ?_
  obtain ⟨x8, rfl, Nq8, K8, fq8_0, fq8_1, fq8_2, xq8_fresh_x⟩ := hQ8
  have N8 := Fr.app N4 Nq8
  show own_E p e below s _ _ _ T8 (mkF m 53 _ [(.ref x8)])
  have f9 := f7.trans K8 all0
  exact own_retA X8 hx hret rfl rfl hlk (hb hby d21_53) (by decide) (by decide) ⟨x8, rfl, N8, f9, fq8_0, fq8_1, fq8_2, (Nat.le_trans f7.1 xq8_fresh_x)⟩
theorem d20_0 : own_D bc20 0 (.aload_n 0) 1 := by decide +kernel
theorem d20_1 : own_D bc20 1 (.invokestatic 112) 3 := by decide +kernel
theorem d20_4 : own_D bc20 4 (.areturn) 1 := by decide +kernel
theorem pd__Ljava_util_Collection__Ljava_util_List_ : parseMethodDescriptor "(Ljava/util/Collection;)Ljava/util/List;" = some ⟨[(.object "java/util/Collection")], some (.object "java/util/List")⟩ := by decide +kernel
def Q_cpy_1 (Z : State) (a : Addr) (t : Addr) (kO : ClassId) (mir : Addr) (em : Addr) (y0 : Addr) (h0 : Heap) (n0 : Nat) (v : Option Value) (h : Heap) (L : List Loc) : Prop := ∃ (x : Addr), (v = some (.ref x)) ∧ (Fr n0 L) ∧ (Keep h0 h []) ∧ (Exa Z h x ks4) ∧ (Fld Z h x ks4 "e0" ks12 (.ref y0)) ∧ (Fld Z h x ks4 "e1" ks12 (.ref em)) ∧ (h0.size ≤ x)
theorem rm_cpy_1 (l : Launch) (Z : State) (a0 : Array Value) (hw : own_HW a0 Z) (ws : List Jvm.Cond) (a : Addr) (t : Addr) (kO : ClassId) (mir : Addr) (em : Addr) (y0 : Addr) (h0 : Heap) (n0 : Nat) (O0 : Old Z n0 h0) (E_a : Exa Z h0 a ks6) (Fe : Fld Z h0 a ks6 ks20 ks8 (.ref t)) (Fz : Fld Z h0 a ks6 "size" "I" (.int (1 : Int32))) (V_t : Arv Z h0 t kO (.object ks2) (10 : Int32) [(.ref y0), .null, .null, .null, .null, .null, .null, .null, .null, .null] .null) (OV : Ovr Z kO ks2) (FC : Z.vm.findClass ks8 = some kO) (MIR : own_Mir Z ks8 mir) (SEm : Sta Z Z.heap ks19 "EMPTY" ks12 (.ref em)) (I_y0 : Ins Z h0 y0 ks2 true) :
    own_MF l own_m32 (Jvm.Cond.code own_m32 bc20 1 (some (.object ks18)) :: ws) (rm4 8 3 8 130) #[(.ref a)] Z h0 (Q_cpy_1 Z a t kO mir em y0 h0 n0) := by
  refine own_met (own := ks18) (nme := "copyOf") rfl rfl (plainFor_of_name pn_12) ?_
  intro p e s m below meth c s₁ hx hby hml hown hnm X0 e0 hret hlk hZ
  have N0 := Fr.nil n0
  rw [ef_abci m a]
  refine own_st (T' := s₁) (g' := (mkF m 1 #[rv a] [(.ref a)])) (fun _ k_ => XS.aloadN X0.here hx rfl (hb hby d20_0) rfl rfl  k_) ?_
  refine own_kcS own_ckE X0 hx hZ hown hml (y := own_m31) (wd hw 136 rfl) (wd hw 137 rfl) (wd hw 106 rfl) (wd hw 138 rfl) (by decide) (rm_lcp_1 l Z a0 hw [] a t kO mir em y0 h0 n0 O0 E_a Fe Fz V_t OV FC MIR SEm I_y0) (by decide) (by decide) (W := 0) (Nat.le_of_eq rfl) (argsL := [(.ref a)]) (rest := []) (lenOf pd__Ljava_util_Collection__Ljava_util_List_ rfl) rfl rfl (hb hby d20_1) rfl e0 (by decide) (by decide) (c' := 2) (s' := 3) rfl rfl (q := 4) rfl fun _ T1 L1 X1 hQ1 => ?_
  obtain ⟨x1, rfl, Nq1, K1, fq1_0, fq1_1, fq1_2, xq1_fresh_x⟩ := hQ1
  have N1 := Fr.app N0 Nq1
  show own_E p e below s _ _ _ T1 (mkF m 4 _ [(.ref x1)])
  have f2 := (Keep.refl h0 []).trans K1 all0
  exact own_retA X1 hx hret rfl rfl hlk (hb hby d20_4) (by decide) (by decide) ⟨x1, rfl, N1, f2, fq1_0, fq1_1, fq1_2, (Nat.le_trans (Keep.refl h0 []).1 xq1_fresh_x)⟩
def Q_cp3_2 (Z : State) (t : Addr) (kO : ClassId) (mir : Addr) (y0 : Addr) (y1 : Addr) (h0 : Heap) (n0 : Nat) (v : Option Value) (h : Heap) (L : List Loc) : Prop := ∃ (u : Addr), (v = some (.ref u)) ∧ (Fr n0 L) ∧ (Keep h0 h []) ∧ (Arv Z h u kO (.object ks2) (2 : Int32) [(.ref y0), (.ref y1)] .null) ∧ (h0.size ≤ u)
theorem rm_cp3_2 (l : Launch) (Z : State) (a0 : Array Value) (hw : own_HW a0 Z) (ws : List Jvm.Cond) (t : Addr) (kO : ClassId) (mir : Addr) (y0 : Addr) (y1 : Addr) (h0 : Heap) (n0 : Nat) (O0 : Old Z n0 h0) (V_t : Arv Z h0 t kO (.object ks2) (10 : Int32) [(.ref y0), (.ref y1), .null, .null, .null, .null, .null, .null, .null, .null] .null) (OV : Ovr Z kO ks2) (FC : Z.vm.findClass ks8 = some kO) (MIR : own_Mir Z ks8 mir) (I_y0 : Ins Z h0 y0 ks2 true) (I_y1 : Ins Z h0 y1 ks2 true) :
    own_MF l own_m25 (Jvm.Cond.code own_m25 bc46 4 (some (.array (.object ks2))) :: ws) (rm4 1 1 2 40) #[(.ref t), (.int (2 : Int32)), (.ref mir)] Z h0 (Q_cp3_2 Z t kO mir y0 y1 h0 n0) := by
  refine own_met (own := "java/util/Arrays") (nme := "copyOf") rfl rfl (plainFor_of_name pn_11) ?_
  intro p e s m below meth c s₁ hx hby hml hown hnm X0 e0 hret hlk hZ
  have N0 := Fr.nil n0
  rw [ef_cp3_1 m t (2 : Int32) mir]
  refine own_st (T' := s₁) (g' := (mkF m 1 #[rv t, iv (2 : Int32), rv mir, .unset] [(.ref mir)])) (fun _ k_ => XS.aloadN X0.here hx rfl (hb hby d46_0) rfl rfl  k_) ?_
  obtain ⟨T1, X1, e1, st1⟩ := own_ldk X0 hx hZ hown (wd hw 320 rfl) e0 MIR (g := (mkF m 1 #[rv t, iv (2 : Int32), rv mir, .unset] [(.ref mir)])) rfl (hb hby d46_1)
  refine own_sp (q := 3) (S' := [(.ref mir), (.ref mir)]) st1 ?_
  clear st1
  refine own_sp (q := 6) (S' := []) (fun _ k_ => Jvm.RoadKit.acmp (g := (mkF m 3 #[rv t, iv (2 : Int32), rv mir, .unset] [(.ref mir), (.ref mir)])) X1 hx rfl rfl rfl (pc0 := 3) (pc' := 6) (same := true) rfl (hb hby d46_3) rfl (decide_eq_true rfl) (by decide) (by decide) k_) ?_
  refine own_sp (q := 7) (S' := [(.int (2 : Int32))]) (fun _ k_ => XS.iloadN X1.here hx rfl (hb hby d46_6) rfl  k_) ?_
  obtain ⟨T2, h2, k2, X2, e2, E2, A2, EX2, O2, st2⟩ := newRE X1 hx hZ hown (wd hw 321 rfl) (wd hw 281 rfl) e1 (g := (mkF m 7 #[rv t, iv (2 : Int32), rv mir, .unset] [(.int (2 : Int32))])) rfl (hb hby d46_7) rfl (by decide) (cap := 2) (by decide) (by decide) (by decide) (by decide) (ad := ks8) (by decide)
  obtain rfl : kO = k2 := own_kk EX2 A2 FC
  clear EX2 O2
  obtain ⟨b2, g2⟩ : ∃ z, z = h0.size := ⟨_, rfl⟩
  rw [← g2] at A2 st2
  have fr2 : n0 ≤ b2 := Nat.le_trans (own_z O0) (Nat.le_of_eq g2.symm)
  have sz2 : h0.size ≤ b2 := Nat.le_trans (Keep.refl h0 []).1 (Nat.le_of_eq g2.symm)
  have V2 : Arv Z h2 b2 kO (.object ks2) (2 : Int32) [.null, .null] .null := (Arv.new A2 (by decide)).pad (pad_rep [] .null 2)
  refine own_sp (q := 10) (S' := [(.ref b2)]) st2 ?_
  clear st2
  refine own_sp (q := 24) (S' := [(.ref b2)]) (fun _ k_ => XS.goto X2.here hx rfl (pc0 := 10) (pc' := 24) rfl (hb hby d46_10) (by decide) (by decide) k_) ?_
  refine own_st (T' := T2) (g' := (mkF m 25 #[rv t, iv (2 : Int32), rv mir, rv b2] [])) (fun _ k_ => XS.astoreN X2.here hx rfl (hb hby d46_24) rfl rfl (l' := #[rv t, iv (2 : Int32), rv mir, rv b2]) rfl k_) ?_
  refine own_sp (q := 26) (S' := [(.ref t)]) (fun _ k_ => XS.aloadN X2.here hx rfl (hb hby d46_25) rfl rfl  k_) ?_
  refine own_sp (q := 27) (S' := [(.int (0 : Int32)), (.ref t)]) (fun _ k_ => XS.iconst X2.here hx rfl (hb hby d46_26) k_) ?_
  refine own_sp (q := 28) (S' := [(.ref b2), (.int (0 : Int32)), (.ref t)]) (fun _ k_ => XS.aloadN X2.here hx rfl (hb hby d46_27) rfl rfl  k_) ?_
  refine own_sp (q := 29) (S' := [(.int (0 : Int32)), (.ref b2), (.int (0 : Int32)), (.ref t)]) (fun _ k_ => XS.iconst X2.here hx rfl (hb hby d46_28) k_) ?_
  refine own_sp (q := 30) (S' := [(.ref t), (.int (0 : Int32)), (.ref b2), (.int (0 : Int32)), (.ref t)]) (fun _ k_ => XS.aloadN X2.here hx rfl (hb hby d46_29) rfl rfl  k_) ?_
  have f4 := V_t.ext E2
  obtain ⟨cl3, Ar3, -, S3, N3, -, -⟩ := id f4
  refine own_sp (q := 31) (S' := [(.int (10 : Int32)), (.int (0 : Int32)), (.ref b2), (.int (0 : Int32)), (.ref t)]) (fun t_ k_ => X2.arraylength hx (by rw [e2]; exact Ar3.1) (State.isArrayOf_alike hZ.alike Ar3.2.1) (g := (mkF m 30 #[rv t, iv (2 : Int32), rv mir, rv b2] [(.ref t), (.int (0 : Int32)), (.ref b2), (.int (0 : Int32)), (.ref t)])) rfl rfl (hb hby d46_30) _ (by rw [len_of S3 N3]; exact k_)) ?_
  refine own_sp (q := 32) (S' := [(.int (2 : Int32)), (.int (10 : Int32)), (.int (0 : Int32)), (.ref b2), (.int (0 : Int32)), (.ref t)]) (fun _ k_ => XS.iloadN X2.here hx rfl (hb hby d46_31) rfl  k_) ?_
  have f5 := O0.ext E2
  refine own_kcS own_ckE X2 hx hZ hown hml (y := own_m20) (wd hw 322 rfl) (wd hw 323 rfl) (wd hw 278 rfl) (wd hw 324 rfl) (by decide) (rm_min l Z a0 hw [] (10 : Int32) (2 : Int32) h2 n0 f5 (by decide)) (by decide) (by decide) (W := 4) (Nat.le_of_eq rfl) (argsL := [(.int (10 : Int32)), (.int (2 : Int32))]) (rest := [(.int (0 : Int32)), (.ref b2), (.int (0 : Int32)), (.ref t)]) (lenOf pd__II_I rfl) rfl rfl (hb hby d46_32) rfl e2 (by decide) (by decide) (c' := 1) (s' := 2) rfl rfl (q := 35) rfl fun _ T6 L6 X6 hQ6 => ?_
  obtain ⟨rfl, Nq6, eq6⟩ := hQ6
  have N6 := Fr.app N0 Nq6
  show own_E p e below s _ _ _ T6 (mkF m 35 _ [(.int (2 : Int32)), (.int (0 : Int32)), (.ref b2), (.int (0 : Int32)), (.ref t)])
  obtain ⟨cl7, Ar7, q7, -⟩ := id V2
  have f8 := Ins.ext E2 I_y1
  have f9 := Ins.ext E2 I_y0
  obtain ⟨T7, h7, L7, X7, e7, N7, K7, Va7, st7⟩ := cpA X6 hx hZ hown (wd hw 325 rfl) (wd hw 328 rfl) (wd hw 326 rfl) (wd hw 327 rfl) eq6 f4 V2 (sp := (0 : Int32)) (dp := (0 : Int32)) (nn := (2 : Int32)) (us := [(.ref y0), (.ref y1)]) (Or.inr ⟨rfl, rfl, ⟨Sto.ofV Ar7 q7 OV f9, ⟨Sto.ofV Ar7 q7 OV f8, trivial⟩⟩⟩) (by decide) (by decide) (by decide) (by decide) (by decide) rfl (Nat.le_of_ble_eq_true rfl) N6 fr2 (g := (mkF m 35 #[rv t, iv (2 : Int32), rv mir, rv b2] [(.int (2 : Int32)), (.int (0 : Int32)), (.ref b2), (.int (0 : Int32)), (.ref t)])) rfl (by rw [hml]; rfl) (rest := []) rfl (hb hby d46_35) (by decide) (W := 0) (by show 2 * 0 + _ ≤ _; exact Nat.le_of_eq rfl) (by decide)
  clear Ar7 q7 cl7
  have V7 : Arv Z h7 b2 kO (.object ks2) (2 : Int32) [(.ref y0), (.ref y1)] .null := Va7
  refine own_sp (q := 38) (S' := []) st7 ?_
  clear st7
  refine own_sp (q := 39) (S' := [(.ref b2)]) (fun _ k_ => XS.aloadN X7.here hx rfl (hb hby d46_38) rfl rfl  k_) ?_
  have f10 := (Keep.refl h0 []).ext E2
  have f11 := f10.trans K7 (allS (Or.inr sz2) all0)
  exact own_retA X7 hx hret rfl rfl hlk (hb hby d46_39) (by decide) (by decide) (by rw [e7]; exact ⟨b2, rfl, N7, f11, V7, sz2⟩)
def Q_cp2_2 (Z : State) (t : Addr) (kO : ClassId) (mir : Addr) (y0 : Addr) (y1 : Addr) (h0 : Heap) (n0 : Nat) (v : Option Value) (h : Heap) (L : List Loc) : Prop := ∃ (u : Addr), (v = some (.ref u)) ∧ (Fr n0 L) ∧ (Keep h0 h []) ∧ (Arv Z h u kO (.object ks2) (2 : Int32) [(.ref y0), (.ref y1)] .null) ∧ (h0.size ≤ u)
theorem rm_cp2_2 (l : Launch) (Z : State) (a0 : Array Value) (hw : own_HW a0 Z) (ws : List Jvm.Cond) (t : Addr) (kO : ClassId) (mir : Addr) (y0 : Addr) (y1 : Addr) (h0 : Heap) (n0 : Nat) (O0 : Old Z n0 h0) (V_t : Arv Z h0 t kO (.object ks2) (10 : Int32) [(.ref y0), (.ref y1), .null, .null, .null, .null, .null, .null, .null, .null] .null) (OV : Ovr Z kO ks2) (FC : Z.vm.findClass ks8 = some kO) (MIR : own_Mir Z ks8 mir) (I_y0 : Ins Z h0 y0 ks2 true) (I_y1 : Ins Z h0 y1 ks2 true) :
    own_MF l own_m26 (Jvm.Cond.code own_m26 bc45 2 (some (.array (.object ks2))) :: ws) (rm4 2 1 2 55) #[(.ref t), (.int (2 : Int32))] Z h0 (Q_cp2_2 Z t kO mir y0 y1 h0 n0) := by
  refine own_met (own := "java/util/Arrays") (nme := "copyOf") rfl rfl (plainFor_of_name pn_11) ?_
  intro p e s m below meth c s₁ hx hby hml hown hnm X0 e0 hret hlk hZ
  have N0 := Fr.nil n0
  rw [ef_cdr_2 m t (2 : Int32)]
  refine own_st (T' := s₁) (g' := (mkF m 1 #[rv t, iv (2 : Int32)] [(.ref t)])) (fun _ k_ => XS.aloadN X0.here hx rfl (hb hby d45_0) rfl rfl  k_) ?_
  refine own_sp (q := 2) (S' := [(.int (2 : Int32)), (.ref t)]) (fun _ k_ => XS.iloadN X0.here hx rfl (hb hby d45_1) rfl  k_) ?_
  refine own_sp (q := 3) (S' := [(.ref t), (.int (2 : Int32)), (.ref t)]) (fun _ k_ => XS.aloadN X0.here hx rfl (hb hby d45_2) rfl rfl  k_) ?_
  obtain ⟨T1, X1, e1, st1⟩ := own_gcls X0 hx hZ hown (wd hw 311 rfl) (wd hw 312 rfl) (wd hw 144 rfl) (wd hw 314 rfl) (wd hw 313 rfl) (wd hw 315 rfl) e0 (own_exaArv V_t FC) MIR (g := (mkF m 3 #[rv t, iv (2 : Int32)] [(.ref t), (.int (2 : Int32)), (.ref t)])) rfl (by rw [hml]; rfl) (rest := [(.int (2 : Int32)), (.ref t)]) rfl (hb hby d45_3) (by decide) (W := 2) (by show 2 * 0 + _ ≤ _; exact Nat.le_of_eq rfl) (by decide)
  refine own_sp (q := 6) (S' := [(.ref mir), (.int (2 : Int32)), (.ref t)]) st1 ?_
  clear st1
  refine own_kcS own_ckE X1 hx hZ hown hml (y := own_m25) (wd hw 317 rfl) (wd hw 318 rfl) (wd hw 309 rfl) (wd hw 319 rfl) (by decide) (rm_cp3_2 l Z a0 hw [] t kO mir y0 y1 h0 n0 O0 V_t OV FC MIR I_y0 I_y1) (by decide) (by decide) (W := 0) (Nat.le_of_eq rfl) (argsL := [(.ref t), (.int (2 : Int32)), (.ref mir)]) (rest := []) (lenOf pd___Ljava_lang_Object_ILjava_lang_Class___Ljava_lang_Object_ rfl) rfl rfl (hb hby d45_6) rfl e1 (by decide) (by decide) (c' := 1) (s' := 2) rfl rfl (q := 9) rfl fun _ T2 L2 X2 hQ2 => ?_
  obtain ⟨u2, rfl, Nq2, K2, fq2_0, xq2_fresh_u⟩ := hQ2
  have N2 := Fr.app N0 Nq2
  show own_E p e below s _ _ _ T2 (mkF m 9 _ [(.ref u2)])
  have f3 := (Keep.refl h0 []).trans K2 all0
  exact own_retA X2 hx hret rfl rfl hlk (hb hby d45_9) (by decide) (by decide) ⟨u2, rfl, N2, f3, fq2_0, (Nat.le_trans (Keep.refl h0 []).1 xq2_fresh_u)⟩
def Q_tar_2 (Z : State) (a : Addr) (t : Addr) (kO : ClassId) (mir : Addr) (y0 : Addr) (y1 : Addr) (h0 : Heap) (n0 : Nat) (v : Option Value) (h : Heap) (L : List Loc) : Prop := ∃ (u : Addr), (v = some (.ref u)) ∧ (Fr n0 L) ∧ (Keep h0 h []) ∧ (Arv Z h u kO (.object ks2) (2 : Int32) [(.ref y0), (.ref y1)] .null) ∧ (h0.size ≤ u)
theorem rm_tar_2 (l : Launch) (Z : State) (a0 : Array Value) (hw : own_HW a0 Z) (ws : List Jvm.Cond) (a : Addr) (t : Addr) (kO : ClassId) (mir : Addr) (y0 : Addr) (y1 : Addr) (h0 : Heap) (n0 : Nat) (O0 : Old Z n0 h0) (Fe : Fld Z h0 a ks6 ks20 ks8 (.ref t)) (Fz : Fld Z h0 a ks6 "size" "I" (.int (2 : Int32))) (V_t : Arv Z h0 t kO (.object ks2) (10 : Int32) [(.ref y0), (.ref y1), .null, .null, .null, .null, .null, .null, .null, .null] .null) (OV : Ovr Z kO ks2) (FC : Z.vm.findClass ks8 = some kO) (MIR : own_Mir Z ks8 mir) (I_y0 : Ins Z h0 y0 ks2 true) (I_y1 : Ins Z h0 y1 ks2 true) :
    own_MF l own_m27 (Jvm.Cond.code own_m27 bc44 1 (some (.array (.object ks2))) :: ws) (rm4 3 1 2 68) #[(.ref a)] Z h0 (Q_tar_2 Z a t kO mir y0 y1 h0 n0) := by
  refine own_met (own := ks6) (nme := "toArray") rfl rfl (plainFor_of_name pn_5) ?_
  intro p e s m below meth c s₁ hx hby hml hown hnm X0 e0 hret hlk hZ
  have N0 := Fr.nil n0
  rw [ef_abci m a]
  refine own_st (T' := s₁) (g' := (mkF m 1 #[rv a] [(.ref a)])) (fun _ k_ => XS.aloadN X0.here hx rfl (hb hby d44_0) rfl rfl  k_) ?_
  refine own_kget own_ckE X0 hx hZ hown (host := "") (Or.inl (wd hw 93 rfl)) Via.refl e0 Fe (hb hby d44_1) (q := 4) rfl fun T1 X1 e1 => ?_
  refine own_sp (q := 5) (S' := [(.ref a), (.ref t)]) (fun _ k_ => XS.aloadN X1.here hx rfl (hb hby d44_4) rfl rfl  k_) ?_
  refine own_kget own_ckE X1 hx hZ hown (host := "") (Or.inl (wd hw 259 rfl)) Via.refl e1 Fz (hb hby d44_5) (q := 8) rfl fun T2 X2 e2 => ?_
  refine own_kcS own_ckE X2 hx hZ hown hml (y := own_m26) (wd hw 307 rfl) (wd hw 308 rfl) (wd hw 309 rfl) (wd hw 310 rfl) (by decide) (rm_cp2_2 l Z a0 hw [] t kO mir y0 y1 h0 n0 O0 V_t OV FC MIR I_y0 I_y1) (by decide) (by decide) (W := 0) (Nat.le_of_eq rfl) (argsL := [(.ref t), (.int (2 : Int32))]) (rest := []) (lenOf pd___Ljava_lang_Object_I__Ljava_lang_Object_ rfl) rfl rfl (hb hby d44_8) rfl e2 (by decide) (by decide) (c' := 1) (s' := 2) rfl rfl (q := 11) rfl fun _ T3 L3 X3 hQ3 => ?_
  obtain ⟨u3, rfl, Nq3, K3, fq3_0, xq3_fresh_u⟩ := hQ3
  have N3 := Fr.app N0 Nq3
  show own_E p e below s _ _ _ T3 (mkF m 11 _ [(.ref u3)])
  have f4 := (Keep.refl h0 []).trans K3 all0
  exact own_retA X3 hx hret rfl rfl hlk (hb hby d44_11) (by decide) (by decide) ⟨u3, rfl, N3, f4, fq3_0, (Nat.le_trans (Keep.refl h0 []).1 xq3_fresh_u)⟩
theorem d48_45 : own_D bc48 45 (.new 96) 3 := by decide +kernel
theorem d48_48 : own_D bc48 48 (.dup) 1 := by decide +kernel
theorem d48_49 : own_D bc48 49 (.aload_n 0) 1 := by decide +kernel
theorem d48_50 : own_D bc48 50 (.iconst 0) 1 := by decide +kernel
theorem d48_51 : own_D bc48 51 (.aaload) 1 := by decide +kernel
theorem d48_52 : own_D bc48 52 (.aload_n 0) 1 := by decide +kernel
theorem d48_53 : own_D bc48 53 (.iconst 1) 1 := by decide +kernel
theorem d48_54 : own_D bc48 54 (.aaload) 1 := by decide +kernel
theorem d48_55 : own_D bc48 55 (.invokespecial 100) 3 := by decide +kernel
theorem d48_58 : own_D bc48 58 (.areturn) 1 := by decide +kernel
theorem pd__Ljava_lang_Object_Ljava_lang_Object__V : parseMethodDescriptor "(Ljava/lang/Object;Ljava/lang/Object;)V" = some ⟨[(.object "java/lang/Object"), (.object "java/lang/Object")], none⟩ := by decide +kernel
def Q_lof_2 (Z : State) (u : Addr) (kO : ClassId) (y0 : Addr) (y1 : Addr) (h0 : Heap) (n0 : Nat) (v : Option Value) (h : Heap) (L : List Loc) : Prop := ∃ (x : Addr), (v = some (.ref x)) ∧ (Fr n0 L) ∧ (Keep h0 h []) ∧ (Exa Z h x ks4) ∧ (Fld Z h x ks4 "e0" ks12 (.ref y0)) ∧ (Fld Z h x ks4 "e1" ks12 (.ref y1)) ∧ (h0.size ≤ x)
theorem rm_lof_2 (l : Launch) (Z : State) (a0 : Array Value) (hw : own_HW a0 Z) (ws : List Jvm.Cond) (u : Addr) (kO : ClassId) (y0 : Addr) (y1 : Addr) (h0 : Heap) (n0 : Nat) (O0 : Old Z n0 h0) (V_u : Arv Z h0 u kO (.object ks2) (2 : Int32) [(.ref y0), (.ref y1)] .null) (OV : Ovr Z kO ks2) (FC : Z.vm.findClass ks8 = some kO) (I_y0 : Ins Z h0 y0 ks2 true) (I_y1 : Ins Z h0 y1 ks2 true) :
    own_MF l own_m28 (Jvm.Cond.code own_m28 bc48 2 (some (.object ks18)) :: ws) (rm4 5 1 2 63) #[(.ref u)] Z h0 (Q_lof_2 Z u kO y0 y1 h0 n0) := by
  refine own_met (own := ks18) (nme := "of") rfl rfl (plainFor_of_name pn_12) ?_
  intro p e s m below meth c s₁ hx hby hml hown hnm X0 e0 hret hlk hZ
  have N0 := Fr.nil n0
  rw [ef_lof_1 m u]
  refine own_st (T' := s₁) (g' := (mkF m 1 #[rv u, .unset] [(.ref u)])) (fun _ k_ => XS.aloadN X0.here hx rfl (hb hby d48_0) rfl rfl  k_) ?_
  obtain ⟨cl1, Ar1, -, S1, N1, -, -⟩ := id V_u
  refine own_sp (q := 2) (S' := [(.int (2 : Int32))]) (fun t_ k_ => X0.arraylength hx (by rw [e0]; exact Ar1.1) (State.isArrayOf_alike hZ.alike Ar1.2.1) (g := (mkF m 1 #[rv u, .unset] [(.ref u)])) rfl rfl (hb hby d48_1) _ (by rw [len_of S1 N1]; exact k_)) ?_
  refine own_sp (q := 45) (S' := []) (fun t_ k_ => X0.tableswitchIn hx (g := (mkF m 2 #[rv u, .unset] [(.int (2 : Int32))])) rfl (k := (2 : Int32)) (rest := []) rfl (hb hby d48_2) (by decide) (off := 43) rfl (show (0 : Int) ≤ ((2 : Nat) : Int) + 43 by decide) _ k_) ?_
  obtain ⟨T2, h2, X2, e2, E2, A2, D2, -, st2⟩ := newO X0 hx hZ hown (wd hw 388 rfl) (wd hw 389 rfl) (wd hw 390 rfl) e0 (g := (mkF m 45 #[rv u, .unset] [])) rfl (hb hby d48_45) (by decide) (by decide)
  obtain ⟨b2, g2⟩ : ∃ z, z = h0.size := ⟨_, rfl⟩
  rw [← g2] at A2 D2 st2
  have fr2 : n0 ≤ b2 := Nat.le_trans (own_z O0) (Nat.le_of_eq g2.symm)
  have sz2 : h0.size ≤ b2 := Nat.le_trans (Keep.refl h0 []).1 (Nat.le_of_eq g2.symm)
  have F2_e0 : Fld Z h2 b2 ks4 "e0" ks12 .null := D2 (Or.inr (wd hw 401 rfl)) (ty := (.object ks2)) (by decide)
  have F2_e1 : Fld Z h2 b2 ks4 "e1" ks12 .null := D2 (Or.inr (wd hw 403 rfl)) (ty := (.object ks2)) (by decide)
  refine own_sp (q := 48) (S' := [(.ref b2)]) st2 ?_
  clear st2
  refine own_sp (q := 49) (S' := [(.ref b2), (.ref b2)]) (fun _ k_ => XS.dup X2.here hx rfl (hb hby d48_48) rfl rfl k_) ?_
  refine own_sp (q := 50) (S' := [(.ref u), (.ref b2), (.ref b2)]) (fun _ k_ => XS.aloadN X2.here hx rfl (hb hby d48_49) rfl rfl  k_) ?_
  refine own_sp (q := 51) (S' := [(.int (0 : Int32)), (.ref u), (.ref b2), (.ref b2)]) (fun _ k_ => XS.iconst X2.here hx rfl (hb hby d48_50) k_) ?_
  have f3 := V_u.ext E2
  obtain ⟨cl4, Ar4, q4, S4, N4, H4, G4⟩ := id f3
  have hin4 : ¬ ((0 : Int32) < 0 ∨ cl4.slots.size ≤ ((0 : Int32)).toNatClampNeg) := inb_of S4 ⟨by decide, by decide⟩
  refine own_sp (q := 52) (S' := [(.ref y0), (.ref b2), (.ref b2)]) (X2.aaload hx (j := (0 : Int32)) (v := (.ref y0)) (by rw [e2]; exact Ar4.1) (State.isArrayOf_alike hZ.alike Ar4.2.1) rfl Ar4.2.2 hin4 (H4.at hin4 rfl) (g := (mkF m 51 #[rv u, .unset] [(.int (0 : Int32)), (.ref u), (.ref b2), (.ref b2)])) rfl rfl (hb hby d48_51)) ?_
  clear hin4 G4 H4 N4 S4 q4 Ar4 cl4
  refine own_sp (q := 53) (S' := [(.ref u), (.ref y0), (.ref b2), (.ref b2)]) (fun _ k_ => XS.aloadN X2.here hx rfl (hb hby d48_52) rfl rfl  k_) ?_
  refine own_sp (q := 54) (S' := [(.int (1 : Int32)), (.ref u), (.ref y0), (.ref b2), (.ref b2)]) (fun _ k_ => XS.iconst X2.here hx rfl (hb hby d48_53) k_) ?_
  obtain ⟨cl5, Ar5, q5, S5, N5, H5, G5⟩ := id f3
  have hin5 : ¬ ((1 : Int32) < 0 ∨ cl5.slots.size ≤ ((1 : Int32)).toNatClampNeg) := inb_of S5 ⟨by decide, by decide⟩
  refine own_sp (q := 55) (S' := [(.ref y1), (.ref y0), (.ref b2), (.ref b2)]) (X2.aaload hx (j := (1 : Int32)) (v := (.ref y1)) (by rw [e2]; exact Ar5.1) (State.isArrayOf_alike hZ.alike Ar5.2.1) rfl Ar5.2.2 hin5 (H5.at hin5 rfl) (g := (mkF m 54 #[rv u, .unset] [(.int (1 : Int32)), (.ref u), (.ref y0), (.ref b2), (.ref b2)])) rfl rfl (hb hby d48_54)) ?_
  clear hin5 G5 H5 N5 S5 q5 Ar5 cl5
  have f6 := O0.ext E2
  refine own_kcI own_ckE X2 hx hZ hown hml (y := own_m22) rfl (wd hw 391 rfl) (wd hw 392 rfl) (wd hw 390 rfl) (wd hw 394 rfl) (by decide) (a := b2) (rm_l12b l Z a0 hw [] b2 y0 y1 h2 n0 f6 A2 F2_e0 F2_e1 fr2) (by decide) (by decide) (W := 1) (Nat.le_of_eq rfl) (argsL := [(.ref y0), (.ref y1)]) (rest := [(.ref b2)]) (lenOf pd__Ljava_lang_Object_Ljava_lang_Object__V rfl) rfl rfl (hb hby d48_55) rfl e2 (by decide) (by decide) (c' := 1) (s' := 2) rfl rfl (q := 58) rfl fun _ T7 L7 X7 hQ7 => ?_
  obtain ⟨rfl, Nq7, K7, fq7_0, fq7_1, fq7_2⟩ := hQ7
  have N7 := Fr.app N0 Nq7
  show own_E p e below s _ _ _ T7 (mkF m 58 _ [(.ref b2)])
  have f8 := (Keep.refl h0 []).ext E2
  have f9 := f8.trans K7 (allS (Or.inr sz2) all0)
  exact own_retA X7 hx hret rfl rfl hlk (hb hby d48_58) (by decide) (by decide) ⟨b2, rfl, N7, f9, fq7_0, fq7_1, fq7_2, sz2⟩
def Q_lcp_2 (Z : State) (a : Addr) (t : Addr) (kO : ClassId) (mir : Addr) (y0 : Addr) (y1 : Addr) (h0 : Heap) (n0 : Nat) (v : Option Value) (h : Heap) (L : List Loc) : Prop := ∃ (x : Addr), (v = some (.ref x)) ∧ (Fr n0 L) ∧ (Keep h0 h []) ∧ (Exa Z h x ks4) ∧ (Fld Z h x ks4 "e0" ks12 (.ref y0)) ∧ (Fld Z h x ks4 "e1" ks12 (.ref y1)) ∧ (h0.size ≤ x)
theorem rm_lcp_2 (l : Launch) (Z : State) (a0 : Array Value) (hw : own_HW a0 Z) (ws : List Jvm.Cond) (a : Addr) (t : Addr) (kO : ClassId) (mir : Addr) (y0 : Addr) (y1 : Addr) (h0 : Heap) (n0 : Nat) (O0 : Old Z n0 h0) (E_a : Exa Z h0 a ks6) (Fe : Fld Z h0 a ks6 ks20 ks8 (.ref t)) (Fz : Fld Z h0 a ks6 "size" "I" (.int (2 : Int32))) (V_t : Arv Z h0 t kO (.object ks2) (10 : Int32) [(.ref y0), (.ref y1), .null, .null, .null, .null, .null, .null, .null, .null] .null) (OV : Ovr Z kO ks2) (FC : Z.vm.findClass ks8 = some kO) (MIR : own_Mir Z ks8 mir) (I_y0 : Ins Z h0 y0 ks2 true) (I_y1 : Ins Z h0 y1 ks2 true) :
    own_MF l own_m31 (Jvm.Cond.code own_m31 bc21 2 (some (.object ks18)) :: ws) (rm4 6 2 4 80) #[(.ref a)] Z h0 (Q_lcp_2 Z a t kO mir y0 y1 h0 n0) := by
  refine own_met (own := ks19) (nme := "listCopy") rfl rfl (plainFor_of_name pn_13) ?_
  intro p e s m below meth c s₁ hx hby hml hown hnm X0 e0 hret hlk hZ
  have N0 := Fr.nil n0
  rw [ef_lof_1 m a]
  refine own_st (T' := s₁) (g' := (mkF m 1 #[rv a, .unset] [(.ref a)])) (fun _ k_ => XS.aloadN X0.here hx rfl (hb hby d21_0) rfl rfl  k_) ?_
  obtain ⟨T1, X1, e1, st1⟩ := instNo X0 hx hZ hown (wd hw 139 rfl) e0 E_a (own_no0 hw) (g := (mkF m 1 #[rv a, .unset] [(.ref a)])) rfl rfl (hb hby d21_1)
  refine own_sp (q := 4) (S' := [(.int (0 : Int32))]) st1 ?_
  clear st1
  refine own_sp (q := 7) (S' := []) (fun _ k_ => XS.ifNo X1.here hx rfl (hb hby d21_4) rfl ((if0 _ _).trans (teq (rfl : (0 : Int32) = (0 : Int32))).2) k_) ?_
  refine own_sp (q := 8) (S' := [(.ref a)]) (fun _ k_ => XS.aloadN X1.here hx rfl (hb hby d21_7) rfl rfl  k_) ?_
  obtain ⟨T2, X2, e2, st2⟩ := instNo X1 hx hZ hown (wd hw 145 rfl) e1 E_a (own_no1 hw) (g := (mkF m 8 #[rv a, .unset] [(.ref a)])) rfl rfl (hb hby d21_8)
  refine own_sp (q := 11) (S' := [(.int (0 : Int32))]) st2 ?_
  clear st2
  refine own_sp (q := 31) (S' := []) (fun _ k_ => XS.ifYes X2.here hx rfl (pc0 := 11) (pc' := 31) rfl (hb hby d21_11) rfl ((if0 _ _).trans (teq (rfl : (0 : Int32) = (0 : Int32))).1) (by decide) (by decide) k_) ?_
  refine own_sp (q := 32) (S' := [(.ref a)]) (fun _ k_ => XS.aloadN X2.here hx rfl (hb hby d21_31) rfl rfl  k_) ?_
  refine own_kcF own_ckE X2 hx hZ hown hml (z := own_m29) (y := own_m21) (wd hw 290 rfl) (wd hw 291 rfl) (mvT hZ (wd hw 292 rfl)) (wd hw 293 rfl) (wd hw 294 rfl) (wd hw 295 rfl) (wd hw 296 rfl) (wd hw 297 rfl) (wd hw 73 rfl) (wd hw 298 rfl) (by decide) E_a (rm_alem l Z a0 hw [] a (2 : Int32) h0 n0 O0 Fz (by decide)) (by decide) (by decide) (W := 0) (Nat.le_of_eq rfl) (argsL := []) (rest := []) (lenOf pd___Z rfl) rfl rfl (hb hby d21_32) rfl e2 (by decide) (by decide) (c' := 0) (s' := 0) rfl rfl (q := 37) rfl fun _ T3 L3 X3 hQ3 => ?_
  obtain ⟨rfl, Nq3, eq3⟩ := hQ3
  have N3 := Fr.app N0 Nq3
  show own_E p e below s _ _ _ T3 (mkF m 37 _ [(.int (0 : Int32))])
  refine own_sp (q := 44) (S' := []) (fun _ k_ => XS.ifYes X3.here hx rfl (pc0 := 37) (pc' := 44) rfl (hb hby d21_37) rfl ((if0 _ _).trans (teq (rfl : (0 : Int32) = (0 : Int32))).1) (by decide) (by decide) k_) ?_
  refine own_sp (q := 45) (S' := [(.ref a)]) (fun _ k_ => XS.aloadN X3.here hx rfl (hb hby d21_44) rfl rfl  k_) ?_
  refine own_kcF own_ckE X3 hx hZ hown hml (z := own_m30) (y := own_m27) (wd hw 299 rfl) (wd hw 300 rfl) (mvT hZ (wd hw 301 rfl)) (wd hw 302 rfl) (wd hw 303 rfl) (wd hw 304 rfl) (wd hw 305 rfl) (wd hw 297 rfl) (wd hw 73 rfl) (wd hw 306 rfl) (by decide) E_a (rm_tar_2 l Z a0 hw [] a t kO mir y0 y1 h0 n0 O0 Fe Fz V_t OV FC MIR I_y0 I_y1) (by decide) (by decide) (W := 0) (Nat.le_of_eq rfl) (argsL := []) (rest := []) (lenOf pd____Ljava_lang_Object_ rfl) rfl rfl (hb hby d21_45) rfl eq3 (by decide) (by decide) (c' := 1) (s' := 2) rfl rfl (q := 50) rfl fun _ T4 L4 X4 hQ4 => ?_
  obtain ⟨u4, rfl, Nq4, K4, fq4_0, xq4_fresh_u⟩ := hQ4
  have N4 := Fr.app N3 Nq4
  show own_E p e below s _ _ _ T4 (mkF m 50 _ [(.ref u4)])
  have f5 := own_insK I_y0 K4
  have f6 := own_insK I_y1 K4
  have f7 := O0.keep K4 all0
  have f8 := (Keep.refl h0 []).trans K4 all0
  refine own_kcS own_ckE X4 hx hZ hown hml (y := own_m28) (wd hw 329 rfl) (wd hw 330 rfl) (wd hw 103 rfl) (wd hw 331 rfl) (by decide) (rm_lof_2 l Z a0 hw [] u4 kO y0 y1 T4.heap n0 f7 fq4_0 OV FC f5 f6) (by decide) (by decide) (W := 0) (Nat.le_of_eq rfl) (argsL := [(.ref u4)]) (rest := []) (lenOf pd___Ljava_lang_Object__Ljava_util_List_ rfl) rfl rfl (hb hby d21_50) rfl rfl (by decide) (by decide) (c' := 2) (s' := 4) rfl rfl (q := 53) rfl fun _ T9 L9 X9 hQ9 => ?_
  obtain ⟨x9, rfl, Nq9, K9, fq9_0, fq9_1, fq9_2, xq9_fresh_x⟩ := hQ9
  have N9 := Fr.app N4 Nq9
  show own_E p e below s _ _ _ T9 (mkF m 53 _ [(.ref x9)])
  have f10 := f8.trans K9 all0
  exact own_retA X9 hx hret rfl rfl hlk (hb hby d21_53) (by decide) (by decide) ⟨x9, rfl, N9, f10, fq9_0, fq9_1, fq9_2, (Nat.le_trans f8.1 xq9_fresh_x)⟩
def Q_cpy_2 (Z : State) (a : Addr) (t : Addr) (kO : ClassId) (mir : Addr) (y0 : Addr) (y1 : Addr) (h0 : Heap) (n0 : Nat) (v : Option Value) (h : Heap) (L : List Loc) : Prop := ∃ (x : Addr), (v = some (.ref x)) ∧ (Fr n0 L) ∧ (Keep h0 h []) ∧ (Exa Z h x ks4) ∧ (Fld Z h x ks4 "e0" ks12 (.ref y0)) ∧ (Fld Z h x ks4 "e1" ks12 (.ref y1)) ∧ (h0.size ≤ x)
theorem rm_cpy_2 (l : Launch) (Z : State) (a0 : Array Value) (hw : own_HW a0 Z) (ws : List Jvm.Cond) (a : Addr) (t : Addr) (kO : ClassId) (mir : Addr) (y0 : Addr) (y1 : Addr) (h0 : Heap) (n0 : Nat) (O0 : Old Z n0 h0) (E_a : Exa Z h0 a ks6) (Fe : Fld Z h0 a ks6 ks20 ks8 (.ref t)) (Fz : Fld Z h0 a ks6 "size" "I" (.int (2 : Int32))) (V_t : Arv Z h0 t kO (.object ks2) (10 : Int32) [(.ref y0), (.ref y1), .null, .null, .null, .null, .null, .null, .null, .null] .null) (OV : Ovr Z kO ks2) (FC : Z.vm.findClass ks8 = some kO) (MIR : own_Mir Z ks8 mir) (I_y0 : Ins Z h0 y0 ks2 true) (I_y1 : Ins Z h0 y1 ks2 true) :
    own_MF l own_m32 (Jvm.Cond.code own_m32 bc20 1 (some (.object ks18)) :: ws) (rm4 8 3 8 130) #[(.ref a)] Z h0 (Q_cpy_2 Z a t kO mir y0 y1 h0 n0) := by
  refine own_met (own := ks18) (nme := "copyOf") rfl rfl (plainFor_of_name pn_12) ?_
  intro p e s m below meth c s₁ hx hby hml hown hnm X0 e0 hret hlk hZ
  have N0 := Fr.nil n0
  rw [ef_abci m a]
  refine own_st (T' := s₁) (g' := (mkF m 1 #[rv a] [(.ref a)])) (fun _ k_ => XS.aloadN X0.here hx rfl (hb hby d20_0) rfl rfl  k_) ?_
  refine own_kcS own_ckE X0 hx hZ hown hml (y := own_m31) (wd hw 136 rfl) (wd hw 137 rfl) (wd hw 106 rfl) (wd hw 138 rfl) (by decide) (rm_lcp_2 l Z a0 hw [] a t kO mir y0 y1 h0 n0 O0 E_a Fe Fz V_t OV FC MIR I_y0 I_y1) (by decide) (by decide) (W := 0) (Nat.le_of_eq rfl) (argsL := [(.ref a)]) (rest := []) (lenOf pd__Ljava_util_Collection__Ljava_util_List_ rfl) rfl rfl (hb hby d20_1) rfl e0 (by decide) (by decide) (c' := 2) (s' := 4) rfl rfl (q := 4) rfl fun _ T1 L1 X1 hQ1 => ?_
  obtain ⟨x1, rfl, Nq1, K1, fq1_0, fq1_1, fq1_2, xq1_fresh_x⟩ := hQ1
  have N1 := Fr.app N0 Nq1
  show own_E p e below s _ _ _ T1 (mkF m 4 _ [(.ref x1)])
  have f2 := (Keep.refl h0 []).trans K1 all0
  exact own_retA X1 hx hret rfl rfl hlk (hb hby d20_4) (by decide) (by decide) ⟨x1, rfl, N1, f2, fq1_0, fq1_1, fq1_2, (Nat.le_trans (Keep.refl h0 []).1 xq1_fresh_x)⟩
def Q_cp3_3 (Z : State) (t : Addr) (kO : ClassId) (mir : Addr) (y0 : Addr) (y1 : Addr) (y2 : Addr) (h0 : Heap) (n0 : Nat) (v : Option Value) (h : Heap) (L : List Loc) : Prop := ∃ (u : Addr), (v = some (.ref u)) ∧ (Fr n0 L) ∧ (Keep h0 h []) ∧ (Arv Z h u kO (.object ks2) (3 : Int32) [(.ref y0), (.ref y1), (.ref y2)] .null) ∧ (h0.size ≤ u)
theorem rm_cp3_3 (l : Launch) (Z : State) (a0 : Array Value) (hw : own_HW a0 Z) (ws : List Jvm.Cond) (t : Addr) (kO : ClassId) (mir : Addr) (y0 : Addr) (y1 : Addr) (y2 : Addr) (h0 : Heap) (n0 : Nat) (O0 : Old Z n0 h0) (V_t : Arv Z h0 t kO (.object ks2) (10 : Int32) [(.ref y0), (.ref y1), (.ref y2), .null, .null, .null, .null, .null, .null, .null] .null) (OV : Ovr Z kO ks2) (FC : Z.vm.findClass ks8 = some kO) (MIR : own_Mir Z ks8 mir) (I_y0 : Ins Z h0 y0 ks2 true) (I_y1 : Ins Z h0 y1 ks2 true) (I_y2 : Ins Z h0 y2 ks2 true) :
    own_MF l own_m25 (Jvm.Cond.code own_m25 bc46 4 (some (.array (.object ks2))) :: ws) (rm4 1 1 3 40) #[(.ref t), (.int (3 : Int32)), (.ref mir)] Z h0 (Q_cp3_3 Z t kO mir y0 y1 y2 h0 n0) := by
  refine own_met (own := "java/util/Arrays") (nme := "copyOf") rfl rfl (plainFor_of_name pn_11) ?_
  intro p e s m below meth c s₁ hx hby hml hown hnm X0 e0 hret hlk hZ
  have N0 := Fr.nil n0
  rw [ef_cp3_1 m t (3 : Int32) mir]
  refine own_st (T' := s₁) (g' := (mkF m 1 #[rv t, iv (3 : Int32), rv mir, .unset] [(.ref mir)])) (fun _ k_ => XS.aloadN X0.here hx rfl (hb hby d46_0) rfl rfl  k_) ?_
  obtain ⟨T1, X1, e1, st1⟩ := own_ldk X0 hx hZ hown (wd hw 320 rfl) e0 MIR (g := (mkF m 1 #[rv t, iv (3 : Int32), rv mir, .unset] [(.ref mir)])) rfl (hb hby d46_1)
  refine own_sp (q := 3) (S' := [(.ref mir), (.ref mir)]) st1 ?_
  clear st1
  refine own_sp (q := 6) (S' := []) (fun _ k_ => Jvm.RoadKit.acmp (g := (mkF m 3 #[rv t, iv (3 : Int32), rv mir, .unset] [(.ref mir), (.ref mir)])) X1 hx rfl rfl rfl (pc0 := 3) (pc' := 6) (same := true) rfl (hb hby d46_3) rfl (decide_eq_true rfl) (by decide) (by decide) k_) ?_
  refine own_sp (q := 7) (S' := [(.int (3 : Int32))]) (fun _ k_ => XS.iloadN X1.here hx rfl (hb hby d46_6) rfl  k_) ?_
  obtain ⟨T2, h2, k2, X2, e2, E2, A2, EX2, O2, st2⟩ := newRE X1 hx hZ hown (wd hw 321 rfl) (wd hw 281 rfl) e1 (g := (mkF m 7 #[rv t, iv (3 : Int32), rv mir, .unset] [(.int (3 : Int32))])) rfl (hb hby d46_7) rfl (by decide) (cap := 3) (by decide) (by decide) (by decide) (by decide) (ad := ks8) (by decide)
  obtain rfl : kO = k2 := own_kk EX2 A2 FC
  clear EX2 O2
  obtain ⟨b2, g2⟩ : ∃ z, z = h0.size := ⟨_, rfl⟩
  rw [← g2] at A2 st2
  have fr2 : n0 ≤ b2 := Nat.le_trans (own_z O0) (Nat.le_of_eq g2.symm)
  have sz2 : h0.size ≤ b2 := Nat.le_trans (Keep.refl h0 []).1 (Nat.le_of_eq g2.symm)
  have V2 : Arv Z h2 b2 kO (.object ks2) (3 : Int32) [.null, .null, .null] .null := (Arv.new A2 (by decide)).pad (pad_rep [] .null 3)
  refine own_sp (q := 10) (S' := [(.ref b2)]) st2 ?_
  clear st2
  refine own_sp (q := 24) (S' := [(.ref b2)]) (fun _ k_ => XS.goto X2.here hx rfl (pc0 := 10) (pc' := 24) rfl (hb hby d46_10) (by decide) (by decide) k_) ?_
  refine own_st (T' := T2) (g' := (mkF m 25 #[rv t, iv (3 : Int32), rv mir, rv b2] [])) (fun _ k_ => XS.astoreN X2.here hx rfl (hb hby d46_24) rfl rfl (l' := #[rv t, iv (3 : Int32), rv mir, rv b2]) rfl k_) ?_
  refine own_sp (q := 26) (S' := [(.ref t)]) (fun _ k_ => XS.aloadN X2.here hx rfl (hb hby d46_25) rfl rfl  k_) ?_
  refine own_sp (q := 27) (S' := [(.int (0 : Int32)), (.ref t)]) (fun _ k_ => XS.iconst X2.here hx rfl (hb hby d46_26) k_) ?_
  refine own_sp (q := 28) (S' := [(.ref b2), (.int (0 : Int32)), (.ref t)]) (fun _ k_ => XS.aloadN X2.here hx rfl (hb hby d46_27) rfl rfl  k_) ?_
  refine own_sp (q := 29) (S' := [(.int (0 : Int32)), (.ref b2), (.int (0 : Int32)), (.ref t)]) (fun _ k_ => XS.iconst X2.here hx rfl (hb hby d46_28) k_) ?_
  refine own_sp (q := 30) (S' := [(.ref t), (.int (0 : Int32)), (.ref b2), (.int (0 : Int32)), (.ref t)]) (fun _ k_ => XS.aloadN X2.here hx rfl (hb hby d46_29) rfl rfl  k_) ?_
  have f4 := V_t.ext E2
  obtain ⟨cl3, Ar3, -, S3, N3, -, -⟩ := id f4
  refine own_sp (q := 31) (S' := [(.int (10 : Int32)), (.int (0 : Int32)), (.ref b2), (.int (0 : Int32)), (.ref t)]) (fun t_ k_ => X2.arraylength hx (by rw [e2]; exact Ar3.1) (State.isArrayOf_alike hZ.alike Ar3.2.1) (g := (mkF m 30 #[rv t, iv (3 : Int32), rv mir, rv b2] [(.ref t), (.int (0 : Int32)), (.ref b2), (.int (0 : Int32)), (.ref t)])) rfl rfl (hb hby d46_30) _ (by rw [len_of S3 N3]; exact k_)) ?_
  refine own_sp (q := 32) (S' := [(.int (3 : Int32)), (.int (10 : Int32)), (.int (0 : Int32)), (.ref b2), (.int (0 : Int32)), (.ref t)]) (fun _ k_ => XS.iloadN X2.here hx rfl (hb hby d46_31) rfl  k_) ?_
  have f5 := O0.ext E2
  refine own_kcS own_ckE X2 hx hZ hown hml (y := own_m20) (wd hw 322 rfl) (wd hw 323 rfl) (wd hw 278 rfl) (wd hw 324 rfl) (by decide) (rm_min l Z a0 hw [] (10 : Int32) (3 : Int32) h2 n0 f5 (by decide)) (by decide) (by decide) (W := 4) (Nat.le_of_eq rfl) (argsL := [(.int (10 : Int32)), (.int (3 : Int32))]) (rest := [(.int (0 : Int32)), (.ref b2), (.int (0 : Int32)), (.ref t)]) (lenOf pd__II_I rfl) rfl rfl (hb hby d46_32) rfl e2 (by decide) (by decide) (c' := 1) (s' := 3) rfl rfl (q := 35) rfl fun _ T6 L6 X6 hQ6 => ?_
  obtain ⟨rfl, Nq6, eq6⟩ := hQ6
  have N6 := Fr.app N0 Nq6
  show own_E p e below s _ _ _ T6 (mkF m 35 _ [(.int (3 : Int32)), (.int (0 : Int32)), (.ref b2), (.int (0 : Int32)), (.ref t)])
  obtain ⟨cl7, Ar7, q7, -⟩ := id V2
  have f8 := Ins.ext E2 I_y2
  have f9 := Ins.ext E2 I_y1
  have f10 := Ins.ext E2 I_y0
  obtain ⟨T7, h7, L7, X7, e7, N7, K7, Va7, st7⟩ := cpA X6 hx hZ hown (wd hw 325 rfl) (wd hw 328 rfl) (wd hw 326 rfl) (wd hw 327 rfl) eq6 f4 V2 (sp := (0 : Int32)) (dp := (0 : Int32)) (nn := (3 : Int32)) (us := [(.ref y0), (.ref y1), (.ref y2)]) (Or.inr ⟨rfl, rfl, ⟨Sto.ofV Ar7 q7 OV f10, ⟨Sto.ofV Ar7 q7 OV f9, ⟨Sto.ofV Ar7 q7 OV f8, trivial⟩⟩⟩⟩) (by decide) (by decide) (by decide) (by decide) (by decide) rfl (Nat.le_of_ble_eq_true rfl) N6 fr2 (g := (mkF m 35 #[rv t, iv (3 : Int32), rv mir, rv b2] [(.int (3 : Int32)), (.int (0 : Int32)), (.ref b2), (.int (0 : Int32)), (.ref t)])) rfl (by rw [hml]; rfl) (rest := []) rfl (hb hby d46_35) (by decide) (W := 0) (by show 2 * 0 + _ ≤ _; exact Nat.le_of_eq rfl) (by decide)
  clear Ar7 q7 cl7
  have V7 : Arv Z h7 b2 kO (.object ks2) (3 : Int32) [(.ref y0), (.ref y1), (.ref y2)] .null := Va7
  refine own_sp (q := 38) (S' := []) st7 ?_
  clear st7
  refine own_sp (q := 39) (S' := [(.ref b2)]) (fun _ k_ => XS.aloadN X7.here hx rfl (hb hby d46_38) rfl rfl  k_) ?_
  have f11 := (Keep.refl h0 []).ext E2
  have f12 := f11.trans K7 (allS (Or.inr sz2) all0)
  exact own_retA X7 hx hret rfl rfl hlk (hb hby d46_39) (by decide) (by decide) (by rw [e7]; exact ⟨b2, rfl, N7, f12, V7, sz2⟩)
def Q_cp2_3 (Z : State) (t : Addr) (kO : ClassId) (mir : Addr) (y0 : Addr) (y1 : Addr) (y2 : Addr) (h0 : Heap) (n0 : Nat) (v : Option Value) (h : Heap) (L : List Loc) : Prop := ∃ (u : Addr), (v = some (.ref u)) ∧ (Fr n0 L) ∧ (Keep h0 h []) ∧ (Arv Z h u kO (.object ks2) (3 : Int32) [(.ref y0), (.ref y1), (.ref y2)] .null) ∧ (h0.size ≤ u)
theorem rm_cp2_3 (l : Launch) (Z : State) (a0 : Array Value) (hw : own_HW a0 Z) (ws : List Jvm.Cond) (t : Addr) (kO : ClassId) (mir : Addr) (y0 : Addr) (y1 : Addr) (y2 : Addr) (h0 : Heap) (n0 : Nat) (O0 : Old Z n0 h0) (V_t : Arv Z h0 t kO (.object ks2) (10 : Int32) [(.ref y0), (.ref y1), (.ref y2), .null, .null, .null, .null, .null, .null, .null] .null) (OV : Ovr Z kO ks2) (FC : Z.vm.findClass ks8 = some kO) (MIR : own_Mir Z ks8 mir) (I_y0 : Ins Z h0 y0 ks2 true) (I_y1 : Ins Z h0 y1 ks2 true) (I_y2 : Ins Z h0 y2 ks2 true) :
    own_MF l own_m26 (Jvm.Cond.code own_m26 bc45 2 (some (.array (.object ks2))) :: ws) (rm4 2 1 3 55) #[(.ref t), (.int (3 : Int32))] Z h0 (Q_cp2_3 Z t kO mir y0 y1 y2 h0 n0) := by
  refine own_met (own := "java/util/Arrays") (nme := "copyOf") rfl rfl (plainFor_of_name pn_11) ?_
  intro p e s m below meth c s₁ hx hby hml hown hnm X0 e0 hret hlk hZ
  have N0 := Fr.nil n0
  rw [ef_cdr_2 m t (3 : Int32)]
  refine own_st (T' := s₁) (g' := (mkF m 1 #[rv t, iv (3 : Int32)] [(.ref t)])) (fun _ k_ => XS.aloadN X0.here hx rfl (hb hby d45_0) rfl rfl  k_) ?_
  refine own_sp (q := 2) (S' := [(.int (3 : Int32)), (.ref t)]) (fun _ k_ => XS.iloadN X0.here hx rfl (hb hby d45_1) rfl  k_) ?_
  refine own_sp (q := 3) (S' := [(.ref t), (.int (3 : Int32)), (.ref t)]) (fun _ k_ => XS.aloadN X0.here hx rfl (hb hby d45_2) rfl rfl  k_) ?_
  obtain ⟨T1, X1, e1, st1⟩ := own_gcls X0 hx hZ hown (wd hw 311 rfl) (wd hw 312 rfl) (wd hw 144 rfl) (wd hw 314 rfl) (wd hw 313 rfl) (wd hw 315 rfl) e0 (own_exaArv V_t FC) MIR (g := (mkF m 3 #[rv t, iv (3 : Int32)] [(.ref t), (.int (3 : Int32)), (.ref t)])) rfl (by rw [hml]; rfl) (rest := [(.int (3 : Int32)), (.ref t)]) rfl (hb hby d45_3) (by decide) (W := 2) (by show 2 * 0 + _ ≤ _; exact Nat.le_of_eq rfl) (by decide)
  refine own_sp (q := 6) (S' := [(.ref mir), (.int (3 : Int32)), (.ref t)]) st1 ?_
  clear st1
  refine own_kcS own_ckE X1 hx hZ hown hml (y := own_m25) (wd hw 317 rfl) (wd hw 318 rfl) (wd hw 309 rfl) (wd hw 319 rfl) (by decide) (rm_cp3_3 l Z a0 hw [] t kO mir y0 y1 y2 h0 n0 O0 V_t OV FC MIR I_y0 I_y1 I_y2) (by decide) (by decide) (W := 0) (Nat.le_of_eq rfl) (argsL := [(.ref t), (.int (3 : Int32)), (.ref mir)]) (rest := []) (lenOf pd___Ljava_lang_Object_ILjava_lang_Class___Ljava_lang_Object_ rfl) rfl rfl (hb hby d45_6) rfl e1 (by decide) (by decide) (c' := 1) (s' := 3) rfl rfl (q := 9) rfl fun _ T2 L2 X2 hQ2 => ?_
  obtain ⟨u2, rfl, Nq2, K2, fq2_0, xq2_fresh_u⟩ := hQ2
  have N2 := Fr.app N0 Nq2
  show own_E p e below s _ _ _ T2 (mkF m 9 _ [(.ref u2)])
  have f3 := (Keep.refl h0 []).trans K2 all0
  exact own_retA X2 hx hret rfl rfl hlk (hb hby d45_9) (by decide) (by decide) ⟨u2, rfl, N2, f3, fq2_0, (Nat.le_trans (Keep.refl h0 []).1 xq2_fresh_u)⟩
def Q_tar_3 (Z : State) (a : Addr) (t : Addr) (kO : ClassId) (mir : Addr) (y0 : Addr) (y1 : Addr) (y2 : Addr) (h0 : Heap) (n0 : Nat) (v : Option Value) (h : Heap) (L : List Loc) : Prop := ∃ (u : Addr), (v = some (.ref u)) ∧ (Fr n0 L) ∧ (Keep h0 h []) ∧ (Arv Z h u kO (.object ks2) (3 : Int32) [(.ref y0), (.ref y1), (.ref y2)] .null) ∧ (h0.size ≤ u)
theorem rm_tar_3 (l : Launch) (Z : State) (a0 : Array Value) (hw : own_HW a0 Z) (ws : List Jvm.Cond) (a : Addr) (t : Addr) (kO : ClassId) (mir : Addr) (y0 : Addr) (y1 : Addr) (y2 : Addr) (h0 : Heap) (n0 : Nat) (O0 : Old Z n0 h0) (Fe : Fld Z h0 a ks6 ks20 ks8 (.ref t)) (Fz : Fld Z h0 a ks6 "size" "I" (.int (3 : Int32))) (V_t : Arv Z h0 t kO (.object ks2) (10 : Int32) [(.ref y0), (.ref y1), (.ref y2), .null, .null, .null, .null, .null, .null, .null] .null) (OV : Ovr Z kO ks2) (FC : Z.vm.findClass ks8 = some kO) (MIR : own_Mir Z ks8 mir) (I_y0 : Ins Z h0 y0 ks2 true) (I_y1 : Ins Z h0 y1 ks2 true) (I_y2 : Ins Z h0 y2 ks2 true) :
    own_MF l own_m27 (Jvm.Cond.code own_m27 bc44 1 (some (.array (.object ks2))) :: ws) (rm4 3 1 3 68) #[(.ref a)] Z h0 (Q_tar_3 Z a t kO mir y0 y1 y2 h0 n0) := by
  refine own_met (own := ks6) (nme := "toArray") rfl rfl (plainFor_of_name pn_5) ?_
  intro p e s m below meth c s₁ hx hby hml hown hnm X0 e0 hret hlk hZ
  have N0 := Fr.nil n0
  rw [ef_abci m a]
  refine own_st (T' := s₁) (g' := (mkF m 1 #[rv a] [(.ref a)])) (fun _ k_ => XS.aloadN X0.here hx rfl (hb hby d44_0) rfl rfl  k_) ?_
  refine own_kget own_ckE X0 hx hZ hown (host := "") (Or.inl (wd hw 93 rfl)) Via.refl e0 Fe (hb hby d44_1) (q := 4) rfl fun T1 X1 e1 => ?_
  refine own_sp (q := 5) (S' := [(.ref a), (.ref t)]) (fun _ k_ => XS.aloadN X1.here hx rfl (hb hby d44_4) rfl rfl  k_) ?_
  refine own_kget own_ckE X1 hx hZ hown (host := "") (Or.inl (wd hw 259 rfl)) Via.refl e1 Fz (hb hby d44_5) (q := 8) rfl fun T2 X2 e2 => ?_
  refine own_kcS own_ckE X2 hx hZ hown hml (y := own_m26) (wd hw 307 rfl) (wd hw 308 rfl) (wd hw 309 rfl) (wd hw 310 rfl) (by decide) (rm_cp2_3 l Z a0 hw [] t kO mir y0 y1 y2 h0 n0 O0 V_t OV FC MIR I_y0 I_y1 I_y2) (by decide) (by decide) (W := 0) (Nat.le_of_eq rfl) (argsL := [(.ref t), (.int (3 : Int32))]) (rest := []) (lenOf pd___Ljava_lang_Object_I__Ljava_lang_Object_ rfl) rfl rfl (hb hby d44_8) rfl e2 (by decide) (by decide) (c' := 1) (s' := 3) rfl rfl (q := 11) rfl fun _ T3 L3 X3 hQ3 => ?_
  obtain ⟨u3, rfl, Nq3, K3, fq3_0, xq3_fresh_u⟩ := hQ3
  have N3 := Fr.app N0 Nq3
  show own_E p e below s _ _ _ T3 (mkF m 11 _ [(.ref u3)])
  have f4 := (Keep.refl h0 []).trans K3 all0
  exact own_retA X3 hx hret rfl rfl hlk (hb hby d44_11) (by decide) (by decide) ⟨u3, rfl, N3, f4, fq3_0, (Nat.le_trans (Keep.refl h0 []).1 xq3_fresh_u)⟩
theorem d49_0 : own_D bc49 0 (.aload_n 0) 1 := by decide +kernel
theorem d49_1 : own_D bc49 1 (.arraylength) 1 := by decide +kernel
theorem d49_2 : own_D bc49 2 (.anewarray 2) 3 := by decide +kernel
theorem d49_5 : own_D bc49 5 (.astore_n 1) 1 := by decide +kernel
theorem d49_6 : own_D bc49 6 (.iconst 0) 1 := by decide +kernel
theorem d49_7 : own_D bc49 7 (.istore_n 2) 1 := by decide +kernel
theorem d49_8 : own_D bc49 8 (.iload_n 2) 1 := by decide +kernel
theorem d49_9 : own_D bc49 9 (.aload_n 0) 1 := by decide +kernel
theorem d49_10 : own_D bc49 10 (.arraylength) 1 := by decide +kernel
theorem d49_11 : own_D bc49 11 (.if_icmp .ge 18) 3 := by decide +kernel
theorem d49_14 : own_D bc49 14 (.aload_n 1) 1 := by decide +kernel
theorem d49_15 : own_D bc49 15 (.iload_n 2) 1 := by decide +kernel
theorem d49_16 : own_D bc49 16 (.aload_n 0) 1 := by decide +kernel
theorem d49_17 : own_D bc49 17 (.iload_n 2) 1 := by decide +kernel
theorem d49_18 : own_D bc49 18 (.aaload) 1 := by decide +kernel
theorem d49_19 : own_D bc49 19 (.invokestatic 37) 3 := by decide +kernel
theorem d49_22 : own_D bc49 22 (.aastore) 1 := by decide +kernel
theorem d49_23 : own_D bc49 23 (.iinc 2 1) 3 := by decide +kernel
theorem d49_26 : own_D bc49 26 (.goto (-18)) 3 := by decide +kernel
theorem d49_29 : own_D bc49 29 (.new 12) 3 := by decide +kernel
theorem d49_32 : own_D bc49 32 (.dup) 1 := by decide +kernel
theorem d49_33 : own_D bc49 33 (.aload_n 1) 1 := by decide +kernel
theorem d49_34 : own_D bc49 34 (.iconst 0) 1 := by decide +kernel
theorem d49_35 : own_D bc49 35 (.invokespecial 43) 3 := by decide +kernel
theorem d49_38 : own_D bc49 38 (.areturn) 1 := by decide +kernel
theorem pd___Ljava_lang_Object_Z_V : parseMethodDescriptor "([Ljava/lang/Object;Z)V" = some ⟨[(.array (.object "java/lang/Object")), .boolean], none⟩ := by decide +kernel
theorem ef_lfa_3 (m : MethodId) (x0 : Addr) : entryFrame m #[(.ref x0)] 3 = mkF m 0 #[rv x0, .unset, .unset] [] := rfl
def Q_lfa_3 (Z : State) (u : Addr) (kO : ClassId) (y0 : Addr) (y1 : Addr) (y2 : Addr) (h0 : Heap) (n0 : Nat) (v : Option Value) (h : Heap) (L : List Loc) : Prop := ∃ (x : Addr) (uu : Addr), (v = some (.ref x)) ∧ (Fr n0 L) ∧ (Keep h0 h []) ∧ (Exa Z h x ks11) ∧ (Fld Z h x ks11 "elements" ks8 (.ref uu)) ∧ (Fld Z h x ks11 "allowNulls" "Z" (.int (0 : Int32))) ∧ (Arv Z h uu kO (.object ks2) (3 : Int32) [(.ref y0), (.ref y1), (.ref y2)] .null) ∧ (h0.size ≤ x) ∧ (h0.size ≤ uu)
theorem rm_lfa_3 (l : Launch) (Z : State) (a0 : Array Value) (hw : own_HW a0 Z) (ws : List Jvm.Cond) (u : Addr) (kO : ClassId) (y0 : Addr) (y1 : Addr) (y2 : Addr) (h0 : Heap) (n0 : Nat) (O0 : Old Z n0 h0) (V_u : Arv Z h0 u kO (.object ks2) (3 : Int32) [(.ref y0), (.ref y1), (.ref y2)] .null) (OV : Ovr Z kO ks2) (FC : Z.vm.findClass ks8 = some kO) (I_y0 : Ins Z h0 y0 ks2 true) (I_y1 : Ins Z h0 y1 ks2 true) (I_y2 : Ins Z h0 y2 ks2 true) :
    own_MF l own_m33 (Jvm.Cond.code own_m33 bc49 3 (some (.object ks18)) :: ws) (rm4 5 2 5 63) #[(.ref u)] Z h0 (Q_lfa_3 Z u kO y0 y1 y2 h0 n0) := by
  refine own_met (own := ks19) (nme := "listFromArray") rfl rfl (plainFor_of_name pn_13) ?_
  intro p e s m below meth c s₁ hx hby hml hown hnm X0 e0 hret hlk hZ
  have N0 := Fr.nil n0
  rw [ef_lfa_3 m u]
  refine own_st (T' := s₁) (g' := (mkF m 1 #[rv u, .unset, .unset] [(.ref u)])) (fun _ k_ => XS.aloadN X0.here hx rfl (hb hby d49_0) rfl rfl  k_) ?_
  obtain ⟨cl1, Ar1, -, S1, N1, -, -⟩ := id V_u
  refine own_sp (q := 2) (S' := [(.int (3 : Int32))]) (fun t_ k_ => X0.arraylength hx (by rw [e0]; exact Ar1.1) (State.isArrayOf_alike hZ.alike Ar1.2.1) (g := (mkF m 1 #[rv u, .unset, .unset] [(.ref u)])) rfl rfl (hb hby d49_1) _ (by rw [len_of S1 N1]; exact k_)) ?_
  obtain ⟨T2, h2, k2, X2, e2, E2, A2, EX2, O2, st2⟩ := newRE X0 hx hZ hown (wd hw 335 rfl) (wd hw 281 rfl) e0 (g := (mkF m 2 #[rv u, .unset, .unset] [(.int (3 : Int32))])) rfl (hb hby d49_2) rfl (by decide) (cap := 3) (by decide) (by decide) (by decide) (by decide) (ad := ks8) (by decide)
  obtain rfl : kO = k2 := own_kk EX2 A2 FC
  clear EX2 O2
  obtain ⟨b2, g2⟩ : ∃ z, z = h0.size := ⟨_, rfl⟩
  rw [← g2] at A2 st2
  have fr2 : n0 ≤ b2 := Nat.le_trans (own_z O0) (Nat.le_of_eq g2.symm)
  have sz2 : h0.size ≤ b2 := Nat.le_trans (Keep.refl h0 []).1 (Nat.le_of_eq g2.symm)
  have V2 : Arv Z h2 b2 kO (.object ks2) (3 : Int32) [.null, .null, .null] .null := (Arv.new A2 (by decide)).pad (pad_rep [] .null 3)
  refine own_sp (q := 5) (S' := [(.ref b2)]) st2 ?_
  clear st2
  refine own_st (T' := T2) (g' := (mkF m 6 #[rv u, rv b2, .unset] [])) (fun _ k_ => XS.astoreN X2.here hx rfl (hb hby d49_5) rfl rfl (l' := #[rv u, rv b2, .unset]) rfl k_) ?_
  refine own_sp (q := 7) (S' := [(.int (0 : Int32))]) (fun _ k_ => XS.iconst X2.here hx rfl (hb hby d49_6) k_) ?_
  refine own_st (T' := T2) (g' := (mkF m 8 #[rv u, rv b2, iv (0 : Int32)] [])) (fun _ k_ => XS.istoreN X2.here hx rfl (hb hby d49_7) rfl (l' := #[rv u, rv b2, iv (0 : Int32)]) rfl k_) ?_
  refine own_sp (q := 9) (S' := [(.int (0 : Int32))]) (fun _ k_ => XS.iloadN X2.here hx rfl (hb hby d49_8) rfl  k_) ?_
  refine own_sp (q := 10) (S' := [(.ref u), (.int (0 : Int32))]) (fun _ k_ => XS.aloadN X2.here hx rfl (hb hby d49_9) rfl rfl  k_) ?_
  have f4 := V_u.ext E2
  obtain ⟨cl3, Ar3, -, S3, N3, -, -⟩ := id f4
  refine own_sp (q := 11) (S' := [(.int (3 : Int32)), (.int (0 : Int32))]) (fun t_ k_ => X2.arraylength hx (by rw [e2]; exact Ar3.1) (State.isArrayOf_alike hZ.alike Ar3.2.1) (g := (mkF m 10 #[rv u, rv b2, iv (0 : Int32)] [(.ref u), (.int (0 : Int32))])) rfl rfl (hb hby d49_10) _ (by rw [len_of S3 N3]; exact k_)) ?_
  refine own_sp (q := 14) (S' := []) (fun _ k_ => XS.icmpNo X2.here hx rfl (hb hby d49_11) rfl (tlt (by decide : (0 : Int32) < (3 : Int32))).2.1 k_) ?_
  refine own_sp (q := 15) (S' := [(.ref b2)]) (fun _ k_ => XS.aloadN X2.here hx rfl (hb hby d49_14) rfl rfl  k_) ?_
  refine own_sp (q := 16) (S' := [(.int (0 : Int32)), (.ref b2)]) (fun _ k_ => XS.iloadN X2.here hx rfl (hb hby d49_15) rfl  k_) ?_
  refine own_sp (q := 17) (S' := [(.ref u), (.int (0 : Int32)), (.ref b2)]) (fun _ k_ => XS.aloadN X2.here hx rfl (hb hby d49_16) rfl rfl  k_) ?_
  refine own_sp (q := 18) (S' := [(.int (0 : Int32)), (.ref u), (.int (0 : Int32)), (.ref b2)]) (fun _ k_ => XS.iloadN X2.here hx rfl (hb hby d49_17) rfl  k_) ?_
  obtain ⟨cl5, Ar5, q5, S5, N5, H5, G5⟩ := id f4
  have hin5 : ¬ ((0 : Int32) < 0 ∨ cl5.slots.size ≤ ((0 : Int32)).toNatClampNeg) := inb_of S5 ⟨by decide, by decide⟩
  refine own_sp (q := 19) (S' := [(.ref y0), (.int (0 : Int32)), (.ref b2)]) (X2.aaload hx (j := (0 : Int32)) (v := (.ref y0)) (by rw [e2]; exact Ar5.1) (State.isArrayOf_alike hZ.alike Ar5.2.1) rfl Ar5.2.2 hin5 (H5.at hin5 rfl) (g := (mkF m 18 #[rv u, rv b2, iv (0 : Int32)] [(.int (0 : Int32)), (.ref u), (.int (0 : Int32)), (.ref b2)])) rfl rfl (hb hby d49_18)) ?_
  clear hin5 G5 H5 N5 S5 q5 Ar5 cl5
  have f6 := O0.ext E2
  refine own_kcS own_ckE X2 hx hZ hown hml (y := own_m19) (wd hw 336 rfl) (wd hw 337 rfl) (wd hw 127 rfl) (wd hw 338 rfl) (by decide) (rm_rnn l Z a0 hw [] y0 h2 n0 f6) (by decide) (by decide) (W := 2) (Nat.le_of_eq rfl) (argsL := [(.ref y0)]) (rest := [(.int (0 : Int32)), (.ref b2)]) (lenOf pd__Ljava_lang_Object__Ljava_lang_Object_ rfl) rfl rfl (hb hby d49_19) rfl e2 (by decide) (by decide) (c' := 1) (s' := 3) rfl rfl (q := 22) rfl fun _ T7 L7 X7 hQ7 => ?_
  obtain ⟨rfl, Nq7, eq7⟩ := hQ7
  have N7 := Fr.app N0 Nq7
  show own_E p e below s _ _ _ T7 (mkF m 22 _ [(.ref y0), (.int (0 : Int32)), (.ref b2)])
  obtain ⟨cl8, Ar8, q8, S8, N8, H8, G8⟩ := id V2
  have hin8 : ¬ ((0 : Int32) < 0 ∨ cl8.slots.size ≤ ((0 : Int32)).toNatClampNeg) := inb_of S8 ⟨by decide, by decide⟩
  have f9 := Ins.ext E2 I_y0
  obtain ⟨T10, h10, X10, e10, W10, st10⟩ := stR X7 hx hZ eq7 Ar8 (j := (0 : Int32)) hin8 rfl (Sto.of Ar8 (q8 ▸ OV) f9) (g := (mkF m 22 #[rv u, rv b2, iv (0 : Int32)] [(.ref y0), (.int (0 : Int32)), (.ref b2)])) rfl rfl (hb hby d49_22)
  have V10 : Arv Z h10 b2 kO (.object ks2) (3 : Int32) [(.ref y0), .null, .null] .null := Arv.set Ar8 q8 S8 N8 H8 G8 rfl W10 0 rfl (Nat.le_of_ble_eq_true rfl)
  have Nx10 := Fr.snoc X10 N7 fr2
  refine own_sp (q := 23) (S' := []) st10 ?_
  clear hin8 G8 H8 N8 S8 q8 Ar8 cl8 st10
  refine own_st (T' := T10) (g' := (mkF m 26 #[rv u, rv b2, iv (1 : Int32)] [])) (fun _ k_ => XS.iinc X10.here hx rfl (hb hby d49_23) rfl (l' := #[rv u, rv b2, iv (1 : Int32)]) rfl k_) ?_
  refine own_sp (q := 8) (S' := []) (fun _ k_ => XS.goto X10.here hx rfl (pc0 := 26) (pc' := 8) rfl (hb hby d49_26) (by decide) (by decide) k_) ?_
  refine own_sp (q := 9) (S' := [(.int (1 : Int32))]) (fun _ k_ => XS.iloadN X10.here hx rfl (hb hby d49_8) rfl  k_) ?_
  refine own_sp (q := 10) (S' := [(.ref u), (.int (1 : Int32))]) (fun _ k_ => XS.aloadN X10.here hx rfl (hb hby d49_9) rfl rfl  k_) ?_
  have ne12 : u ≠ b2 := Nat.ne_of_lt (Nat.lt_of_lt_of_le V_u.lt (Nat.le_of_eq g2.symm))
  have f13 := f4.other W10 ne12
  obtain ⟨cl11, Ar11, -, S11, N11, -, -⟩ := id f13
  refine own_sp (q := 11) (S' := [(.int (3 : Int32)), (.int (1 : Int32))]) (fun t_ k_ => X10.arraylength hx (by rw [e10]; exact Ar11.1) (State.isArrayOf_alike hZ.alike Ar11.2.1) (g := (mkF m 10 #[rv u, rv b2, iv (1 : Int32)] [(.ref u), (.int (1 : Int32))])) rfl rfl (hb hby d49_10) _ (by rw [len_of S11 N11]; exact k_)) ?_
  refine own_sp (q := 14) (S' := []) (fun _ k_ => XS.icmpNo X10.here hx rfl (hb hby d49_11) rfl (tlt (by decide : (1 : Int32) < (3 : Int32))).2.1 k_) ?_
  refine own_sp (q := 15) (S' := [(.ref b2)]) (fun _ k_ => XS.aloadN X10.here hx rfl (hb hby d49_14) rfl rfl  k_) ?_
  refine own_sp (q := 16) (S' := [(.int (1 : Int32)), (.ref b2)]) (fun _ k_ => XS.iloadN X10.here hx rfl (hb hby d49_15) rfl  k_) ?_
  refine own_sp (q := 17) (S' := [(.ref u), (.int (1 : Int32)), (.ref b2)]) (fun _ k_ => XS.aloadN X10.here hx rfl (hb hby d49_16) rfl rfl  k_) ?_
  refine own_sp (q := 18) (S' := [(.int (1 : Int32)), (.ref u), (.int (1 : Int32)), (.ref b2)]) (fun _ k_ => XS.iloadN X10.here hx rfl (hb hby d49_17) rfl  k_) ?_
  obtain ⟨cl14, Ar14, q14, S14, N14, H14, G14⟩ := id f13
  have hin14 : ¬ ((1 : Int32) < 0 ∨ cl14.slots.size ≤ ((1 : Int32)).toNatClampNeg) := inb_of S14 ⟨by decide, by decide⟩
  refine own_sp (q := 19) (S' := [(.ref y1), (.int (1 : Int32)), (.ref b2)]) (X10.aaload hx (j := (1 : Int32)) (v := (.ref y1)) (by rw [e10]; exact Ar14.1) (State.isArrayOf_alike hZ.alike Ar14.2.1) rfl Ar14.2.2 hin14 (H14.at hin14 rfl) (g := (mkF m 18 #[rv u, rv b2, iv (1 : Int32)] [(.int (1 : Int32)), (.ref u), (.int (1 : Int32)), (.ref b2)])) rfl rfl (hb hby d49_18)) ?_
  clear hin14 G14 H14 N14 S14 q14 Ar14 cl14
  have f15 := f6.wr W10 fr2
  refine own_kcS own_ckE X10 hx hZ hown hml (y := own_m19) (wd hw 336 rfl) (wd hw 337 rfl) (wd hw 127 rfl) (wd hw 338 rfl) (by decide) (rm_rnn l Z a0 hw [] y1 h10 n0 f15) (by decide) (by decide) (W := 2) (Nat.le_of_eq rfl) (argsL := [(.ref y1)]) (rest := [(.int (1 : Int32)), (.ref b2)]) (lenOf pd__Ljava_lang_Object__Ljava_lang_Object_ rfl) rfl rfl (hb hby d49_19) rfl e10 (by decide) (by decide) (c' := 1) (s' := 3) rfl rfl (q := 22) rfl fun _ T16 L16 X16 hQ16 => ?_
  obtain ⟨rfl, Nq16, eq16⟩ := hQ16
  have N16 := Fr.app Nx10 Nq16
  show own_E p e below s _ _ _ T16 (mkF m 22 _ [(.ref y1), (.int (1 : Int32)), (.ref b2)])
  obtain ⟨cl17, Ar17, q17, S17, N17, H17, G17⟩ := id V10
  have hin17 : ¬ ((1 : Int32) < 0 ∨ cl17.slots.size ≤ ((1 : Int32)).toNatClampNeg) := inb_of S17 ⟨by decide, by decide⟩
  have f18 := Ins.ext E2 I_y1
  have f19 := Ins.wr W10 f18
  obtain ⟨T20, h20, X20, e20, W20, st20⟩ := stR X16 hx hZ eq16 Ar17 (j := (1 : Int32)) hin17 rfl (Sto.of Ar17 (q17 ▸ OV) f19) (g := (mkF m 22 #[rv u, rv b2, iv (1 : Int32)] [(.ref y1), (.int (1 : Int32)), (.ref b2)])) rfl rfl (hb hby d49_22)
  have V20 : Arv Z h20 b2 kO (.object ks2) (3 : Int32) [(.ref y0), (.ref y1), .null] .null := Arv.set Ar17 q17 S17 N17 H17 G17 rfl W20 1 rfl (Nat.le_of_ble_eq_true rfl)
  have Nx20 := Fr.snoc X20 N16 fr2
  refine own_sp (q := 23) (S' := []) st20 ?_
  clear hin17 G17 H17 N17 S17 q17 Ar17 cl17 st20
  refine own_st (T' := T20) (g' := (mkF m 26 #[rv u, rv b2, iv (2 : Int32)] [])) (fun _ k_ => XS.iinc X20.here hx rfl (hb hby d49_23) rfl (l' := #[rv u, rv b2, iv (2 : Int32)]) rfl k_) ?_
  refine own_sp (q := 8) (S' := []) (fun _ k_ => XS.goto X20.here hx rfl (pc0 := 26) (pc' := 8) rfl (hb hby d49_26) (by decide) (by decide) k_) ?_
  refine own_sp (q := 9) (S' := [(.int (2 : Int32))]) (fun _ k_ => XS.iloadN X20.here hx rfl (hb hby d49_8) rfl  k_) ?_
  refine own_sp (q := 10) (S' := [(.ref u), (.int (2 : Int32))]) (fun _ k_ => XS.aloadN X20.here hx rfl (hb hby d49_9) rfl rfl  k_) ?_
  have f22 := f13.other W20 ne12
  obtain ⟨cl21, Ar21, -, S21, N21, -, -⟩ := id f22
  refine own_sp (q := 11) (S' := [(.int (3 : Int32)), (.int (2 : Int32))]) (fun t_ k_ => X20.arraylength hx (by rw [e20]; exact Ar21.1) (State.isArrayOf_alike hZ.alike Ar21.2.1) (g := (mkF m 10 #[rv u, rv b2, iv (2 : Int32)] [(.ref u), (.int (2 : Int32))])) rfl rfl (hb hby d49_10) _ (by rw [len_of S21 N21]; exact k_)) ?_
  refine own_sp (q := 14) (S' := []) (fun _ k_ => XS.icmpNo X20.here hx rfl (hb hby d49_11) rfl (tlt (by decide : (2 : Int32) < (3 : Int32))).2.1 k_) ?_
  refine own_sp (q := 15) (S' := [(.ref b2)]) (fun _ k_ => XS.aloadN X20.here hx rfl (hb hby d49_14) rfl rfl  k_) ?_
  refine own_sp (q := 16) (S' := [(.int (2 : Int32)), (.ref b2)]) (fun _ k_ => XS.iloadN X20.here hx rfl (hb hby d49_15) rfl  k_) ?_
  refine own_sp (q := 17) (S' := [(.ref u), (.int (2 : Int32)), (.ref b2)]) (fun _ k_ => XS.aloadN X20.here hx rfl (hb hby d49_16) rfl rfl  k_) ?_
  refine own_sp (q := 18) (S' := [(.int (2 : Int32)), (.ref u), (.int (2 : Int32)), (.ref b2)]) (fun _ k_ => XS.iloadN X20.here hx rfl (hb hby d49_17) rfl  k_) ?_
  obtain ⟨cl23, Ar23, q23, S23, N23, H23, G23⟩ := id f22
  have hin23 : ¬ ((2 : Int32) < 0 ∨ cl23.slots.size ≤ ((2 : Int32)).toNatClampNeg) := inb_of S23 ⟨by decide, by decide⟩
  refine own_sp (q := 19) (S' := [(.ref y2), (.int (2 : Int32)), (.ref b2)]) (X20.aaload hx (j := (2 : Int32)) (v := (.ref y2)) (by rw [e20]; exact Ar23.1) (State.isArrayOf_alike hZ.alike Ar23.2.1) rfl Ar23.2.2 hin23 (H23.at hin23 rfl) (g := (mkF m 18 #[rv u, rv b2, iv (2 : Int32)] [(.int (2 : Int32)), (.ref u), (.int (2 : Int32)), (.ref b2)])) rfl rfl (hb hby d49_18)) ?_
  clear hin23 G23 H23 N23 S23 q23 Ar23 cl23
  have f24 := f15.wr W20 fr2
  refine own_kcS own_ckE X20 hx hZ hown hml (y := own_m19) (wd hw 336 rfl) (wd hw 337 rfl) (wd hw 127 rfl) (wd hw 338 rfl) (by decide) (rm_rnn l Z a0 hw [] y2 h20 n0 f24) (by decide) (by decide) (W := 2) (Nat.le_of_eq rfl) (argsL := [(.ref y2)]) (rest := [(.int (2 : Int32)), (.ref b2)]) (lenOf pd__Ljava_lang_Object__Ljava_lang_Object_ rfl) rfl rfl (hb hby d49_19) rfl e20 (by decide) (by decide) (c' := 1) (s' := 3) rfl rfl (q := 22) rfl fun _ T25 L25 X25 hQ25 => ?_
  obtain ⟨rfl, Nq25, eq25⟩ := hQ25
  have N25 := Fr.app Nx20 Nq25
  show own_E p e below s _ _ _ T25 (mkF m 22 _ [(.ref y2), (.int (2 : Int32)), (.ref b2)])
  obtain ⟨cl26, Ar26, q26, S26, N26, H26, G26⟩ := id V20
  have hin26 : ¬ ((2 : Int32) < 0 ∨ cl26.slots.size ≤ ((2 : Int32)).toNatClampNeg) := inb_of S26 ⟨by decide, by decide⟩
  have f27 := Ins.ext E2 I_y2
  have f28 := Ins.wr W10 f27
  have f29 := Ins.wr W20 f28
  obtain ⟨T30, h30, X30, e30, W30, st30⟩ := stR X25 hx hZ eq25 Ar26 (j := (2 : Int32)) hin26 rfl (Sto.of Ar26 (q26 ▸ OV) f29) (g := (mkF m 22 #[rv u, rv b2, iv (2 : Int32)] [(.ref y2), (.int (2 : Int32)), (.ref b2)])) rfl rfl (hb hby d49_22)
  have V30 : Arv Z h30 b2 kO (.object ks2) (3 : Int32) [(.ref y0), (.ref y1), (.ref y2)] .null := Arv.set Ar26 q26 S26 N26 H26 G26 rfl W30 2 rfl (Nat.le_of_ble_eq_true rfl)
  have Nx30 := Fr.snoc X30 N25 fr2
  refine own_sp (q := 23) (S' := []) st30 ?_
  clear hin26 G26 H26 N26 S26 q26 Ar26 cl26 st30
  refine own_st (T' := T30) (g' := (mkF m 26 #[rv u, rv b2, iv (3 : Int32)] [])) (fun _ k_ => XS.iinc X30.here hx rfl (hb hby d49_23) rfl (l' := #[rv u, rv b2, iv (3 : Int32)]) rfl k_) ?_
  refine own_sp (q := 8) (S' := []) (fun _ k_ => XS.goto X30.here hx rfl (pc0 := 26) (pc' := 8) rfl (hb hby d49_26) (by decide) (by decide) k_) ?_
  refine own_sp (q := 9) (S' := [(.int (3 : Int32))]) (fun _ k_ => XS.iloadN X30.here hx rfl (hb hby d49_8) rfl  k_) ?_
  refine own_sp (q := 10) (S' := [(.ref u), (.int (3 : Int32))]) (fun _ k_ => XS.aloadN X30.here hx rfl (hb hby d49_9) rfl rfl  k_) ?_
  have f32 := f22.other W30 ne12
  obtain ⟨cl31, Ar31, -, S31, N31, -, -⟩ := id f32
  refine own_sp (q := 11) (S' := [(.int (3 : Int32)), (.int (3 : Int32))]) (fun t_ k_ => X30.arraylength hx (by rw [e30]; exact Ar31.1) (State.isArrayOf_alike hZ.alike Ar31.2.1) (g := (mkF m 10 #[rv u, rv b2, iv (3 : Int32)] [(.ref u), (.int (3 : Int32))])) rfl rfl (hb hby d49_10) _ (by rw [len_of S31 N31]; exact k_)) ?_
  refine own_sp (q := 29) (S' := []) (fun _ k_ => XS.icmpYes X30.here hx rfl (pc0 := 11) (pc' := 29) rfl (hb hby d49_11) rfl (flt (by decide : ¬ ((3 : Int32) < (3 : Int32)))).2.1 (by decide) (by decide) k_) ?_
  have f33 := f24.wr W30 fr2
  have f34 := (Keep.refl h0 []).ext E2
  have f35 := f34.wr W10 (Or.inr sz2)
  have f36 := f35.wr W20 (Or.inr sz2)
  have f37 := f36.wr W30 (Or.inr sz2)
  obtain ⟨T38, h38, X38, e38, E38, A38, D38, -, st38⟩ := newO X30 hx hZ hown (wd hw 145 rfl) (wd hw 339 rfl) (wd hw 158 rfl) e30 (g := (mkF m 29 #[rv u, rv b2, iv (3 : Int32)] [])) rfl (hb hby d49_29) (by decide) (by decide)
  obtain ⟨b38, g38⟩ : ∃ z, z = h30.size := ⟨_, rfl⟩
  rw [← g38] at A38 D38 st38
  have fr38 : n0 ≤ b38 := Nat.le_trans (own_z f33) (Nat.le_of_eq g38.symm)
  have sz38 : h0.size ≤ b38 := Nat.le_trans f37.1 (Nat.le_of_eq g38.symm)
  have F38_allowNulls : Fld Z h38 b38 ks11 "allowNulls" "Z" (.int (0 : Int32)) := D38 (Or.inr (wd hw 148 rfl)) (ty := .boolean) (by decide)
  have F38_elements : Fld Z h38 b38 ks11 "elements" ks8 .null := D38 (Or.inr (wd hw 161 rfl)) (ty := (.array (.object ks2))) (by decide)
  refine own_sp (q := 32) (S' := [(.ref b38)]) st38 ?_
  clear st38
  refine own_sp (q := 33) (S' := [(.ref b38), (.ref b38)]) (fun _ k_ => XS.dup X38.here hx rfl (hb hby d49_32) rfl rfl k_) ?_
  refine own_sp (q := 34) (S' := [(.ref b2), (.ref b38), (.ref b38)]) (fun _ k_ => XS.aloadN X38.here hx rfl (hb hby d49_33) rfl rfl  k_) ?_
  refine own_sp (q := 35) (S' := [(.int (0 : Int32)), (.ref b2), (.ref b38), (.ref b38)]) (fun _ k_ => XS.iconst X38.here hx rfl (hb hby d49_34) k_) ?_
  have f39 := f33.ext E38
  obtain ⟨_, T40, L40, X40, hQ40, st40⟩ := own_callIN X38 hx (y := own_m24) rfl hown (Cond.methodLinkNest_wide hZ (wd hw 340 rfl)) (mvT hZ (wd hw 341 rfl)) (mvT hZ (wd hw 342 rfl)) (by decide) (backOf (W := 1) (rm_lni l Z a0 hw [] b38 b2 h38 n0 f39 A38 F38_elements F38_allowNulls fr38) hZ (wd hw 342 rfl) (wd hw 158 rfl) (by decide) (by decide)) (g := (mkF m 35 #[rv u, rv b2, iv (3 : Int32)] [(.int (0 : Int32)), (.ref b2), (.ref b38), (.ref b38)])) rfl (by rw [hml]; rfl) (a := b38) (argsL := [(.ref b2), (.int (0 : Int32))]) (rest := [(.ref b38)]) (lenOf pd___Ljava_lang_Object_Z_V rfl) rfl (by show 2 * 0 + _ ≤ _; exact Nat.le_of_eq rfl) (hb hby d49_35) rfl e38 (by decide) (by decide) (c' := 2) (s' := 5) rfl rfl
  obtain ⟨rfl, Nq40, K40, fq40_0, fq40_1, fq40_2⟩ := hQ40
  have N40 := Fr.app Nx30 Nq40
  refine own_sp (q := 38) (S' := [(.ref b38)]) st40 ?_
  clear st40
  have f41 := f37.ext E38
  have f42 := f41.trans K40 (allS (Or.inr sz38) all0)
  have f43 := V30.ext E38
  have ne44 : b2 ≠ b38 := Nat.ne_of_lt (Nat.lt_of_lt_of_le (Nat.lt_of_lt_of_le (Nat.lt_of_lt_of_le (Nat.lt_of_lt_of_le V2.lt (Nat.le_of_eq (Wr.size W10).symm)) (Nat.le_of_eq (Wr.size W20).symm)) (Nat.le_of_eq (Wr.size W30).symm)) (Nat.le_of_eq g38.symm))
  have f45 := f43.keep K40 (ninS ne44 nin0)
  exact own_retA X40 hx hret rfl rfl hlk (hb hby d49_38) (by decide) (by decide) ⟨b38, b2, rfl, N40, f42, fq40_0, fq40_1, fq40_2, f45, sz38, sz2⟩
theorem d48_59 : own_D bc48 59 (.aload_n 0) 1 := by decide +kernel
theorem d48_60 : own_D bc48 60 (.invokestatic 109) 3 := by decide +kernel
theorem d48_63 : own_D bc48 63 (.areturn) 1 := by decide +kernel
def Q_lof_3 (Z : State) (u : Addr) (kO : ClassId) (y0 : Addr) (y1 : Addr) (y2 : Addr) (h0 : Heap) (n0 : Nat) (v : Option Value) (h : Heap) (L : List Loc) : Prop := ∃ (x : Addr) (uu : Addr), (v = some (.ref x)) ∧ (Fr n0 L) ∧ (Keep h0 h []) ∧ (Exa Z h x ks11) ∧ (Fld Z h x ks11 "elements" ks8 (.ref uu)) ∧ (Fld Z h x ks11 "allowNulls" "Z" (.int (0 : Int32))) ∧ (Arv Z h uu kO (.object ks2) (3 : Int32) [(.ref y0), (.ref y1), (.ref y2)] .null) ∧ (h0.size ≤ x) ∧ (h0.size ≤ uu)
theorem rm_lof_3 (l : Launch) (Z : State) (a0 : Array Value) (hw : own_HW a0 Z) (ws : List Jvm.Cond) (u : Addr) (kO : ClassId) (y0 : Addr) (y1 : Addr) (y2 : Addr) (h0 : Heap) (n0 : Nat) (O0 : Old Z n0 h0) (V_u : Arv Z h0 u kO (.object ks2) (3 : Int32) [(.ref y0), (.ref y1), (.ref y2)] .null) (OV : Ovr Z kO ks2) (FC : Z.vm.findClass ks8 = some kO) (I_y0 : Ins Z h0 y0 ks2 true) (I_y1 : Ins Z h0 y1 ks2 true) (I_y2 : Ins Z h0 y2 ks2 true) :
    own_MF l own_m28 (Jvm.Cond.code own_m28 bc48 2 (some (.object ks18)) :: ws) (rm4 6 2 5 77) #[(.ref u)] Z h0 (Q_lof_3 Z u kO y0 y1 y2 h0 n0) := by
  refine own_met (own := ks18) (nme := "of") rfl rfl (plainFor_of_name pn_12) ?_
  intro p e s m below meth c s₁ hx hby hml hown hnm X0 e0 hret hlk hZ
  have N0 := Fr.nil n0
  rw [ef_lof_1 m u]
  refine own_st (T' := s₁) (g' := (mkF m 1 #[rv u, .unset] [(.ref u)])) (fun _ k_ => XS.aloadN X0.here hx rfl (hb hby d48_0) rfl rfl  k_) ?_
  obtain ⟨cl1, Ar1, -, S1, N1, -, -⟩ := id V_u
  refine own_sp (q := 2) (S' := [(.int (3 : Int32))]) (fun t_ k_ => X0.arraylength hx (by rw [e0]; exact Ar1.1) (State.isArrayOf_alike hZ.alike Ar1.2.1) (g := (mkF m 1 #[rv u, .unset] [(.ref u)])) rfl rfl (hb hby d48_1) _ (by rw [len_of S1 N1]; exact k_)) ?_
  refine own_sp (q := 59) (S' := []) (fun t_ k_ => X0.tableswitchOut hx (g := (mkF m 2 #[rv u, .unset] [(.int (3 : Int32))])) rfl (k := (3 : Int32)) (rest := []) rfl (hb hby d48_2) (by decide) (show (0 : Int) ≤ ((2 : Nat) : Int) + 57 by decide) _ k_) ?_
  refine own_sp (q := 60) (S' := [(.ref u)]) (fun _ k_ => XS.aloadN X0.here hx rfl (hb hby d48_59) rfl rfl  k_) ?_
  refine own_kcS own_ckE X0 hx hZ hown hml (y := own_m33) (wd hw 332 rfl) (wd hw 333 rfl) (wd hw 106 rfl) (wd hw 334 rfl) (by decide) (rm_lfa_3 l Z a0 hw [] u kO y0 y1 y2 h0 n0 O0 V_u OV FC I_y0 I_y1 I_y2) (by decide) (by decide) (W := 0) (Nat.le_of_eq rfl) (argsL := [(.ref u)]) (rest := []) (lenOf pd___Ljava_lang_Object__Ljava_util_List_ rfl) rfl rfl (hb hby d48_60) rfl e0 (by decide) (by decide) (c' := 2) (s' := 5) rfl rfl (q := 63) rfl fun _ T2 L2 X2 hQ2 => ?_
  obtain ⟨x2, uu2, rfl, Nq2, K2, fq2_0, fq2_1, fq2_2, fq2_3, xq2_fresh_x, xq2_fresh_uu⟩ := hQ2
  have N2 := Fr.app N0 Nq2
  show own_E p e below s _ _ _ T2 (mkF m 63 _ [(.ref x2)])
  have f3 := (Keep.refl h0 []).trans K2 all0
  exact own_retA X2 hx hret rfl rfl hlk (hb hby d48_63) (by decide) (by decide) ⟨x2, uu2, rfl, N2, f3, fq2_0, fq2_1, fq2_2, fq2_3, (Nat.le_trans (Keep.refl h0 []).1 xq2_fresh_x), (Nat.le_trans (Keep.refl h0 []).1 xq2_fresh_uu)⟩
def Q_lcp_3 (Z : State) (a : Addr) (t : Addr) (kO : ClassId) (mir : Addr) (y0 : Addr) (y1 : Addr) (y2 : Addr) (h0 : Heap) (n0 : Nat) (v : Option Value) (h : Heap) (L : List Loc) : Prop := ∃ (x : Addr) (uu : Addr), (v = some (.ref x)) ∧ (Fr n0 L) ∧ (Keep h0 h []) ∧ (Exa Z h x ks11) ∧ (Fld Z h x ks11 "elements" ks8 (.ref uu)) ∧ (Fld Z h x ks11 "allowNulls" "Z" (.int (0 : Int32))) ∧ (Arv Z h uu kO (.object ks2) (3 : Int32) [(.ref y0), (.ref y1), (.ref y2)] .null) ∧ (h0.size ≤ x) ∧ (h0.size ≤ uu)
theorem rm_lcp_3 (l : Launch) (Z : State) (a0 : Array Value) (hw : own_HW a0 Z) (ws : List Jvm.Cond) (a : Addr) (t : Addr) (kO : ClassId) (mir : Addr) (y0 : Addr) (y1 : Addr) (y2 : Addr) (h0 : Heap) (n0 : Nat) (O0 : Old Z n0 h0) (E_a : Exa Z h0 a ks6) (Fe : Fld Z h0 a ks6 ks20 ks8 (.ref t)) (Fz : Fld Z h0 a ks6 "size" "I" (.int (3 : Int32))) (V_t : Arv Z h0 t kO (.object ks2) (10 : Int32) [(.ref y0), (.ref y1), (.ref y2), .null, .null, .null, .null, .null, .null, .null] .null) (OV : Ovr Z kO ks2) (FC : Z.vm.findClass ks8 = some kO) (MIR : own_Mir Z ks8 mir) (I_y0 : Ins Z h0 y0 ks2 true) (I_y1 : Ins Z h0 y1 ks2 true) (I_y2 : Ins Z h0 y2 ks2 true) :
    own_MF l own_m31 (Jvm.Cond.code own_m31 bc21 2 (some (.object ks18)) :: ws) (rm4 7 3 8 90) #[(.ref a)] Z h0 (Q_lcp_3 Z a t kO mir y0 y1 y2 h0 n0) := by
  refine own_met (own := ks19) (nme := "listCopy") rfl rfl (plainFor_of_name pn_13) ?_
  intro p e s m below meth c s₁ hx hby hml hown hnm X0 e0 hret hlk hZ
  have N0 := Fr.nil n0
  rw [ef_lof_1 m a]
  refine own_st (T' := s₁) (g' := (mkF m 1 #[rv a, .unset] [(.ref a)])) (fun _ k_ => XS.aloadN X0.here hx rfl (hb hby d21_0) rfl rfl  k_) ?_
  obtain ⟨T1, X1, e1, st1⟩ := instNo X0 hx hZ hown (wd hw 139 rfl) e0 E_a (own_no0 hw) (g := (mkF m 1 #[rv a, .unset] [(.ref a)])) rfl rfl (hb hby d21_1)
  refine own_sp (q := 4) (S' := [(.int (0 : Int32))]) st1 ?_
  clear st1
  refine own_sp (q := 7) (S' := []) (fun _ k_ => XS.ifNo X1.here hx rfl (hb hby d21_4) rfl ((if0 _ _).trans (teq (rfl : (0 : Int32) = (0 : Int32))).2) k_) ?_
  refine own_sp (q := 8) (S' := [(.ref a)]) (fun _ k_ => XS.aloadN X1.here hx rfl (hb hby d21_7) rfl rfl  k_) ?_
  obtain ⟨T2, X2, e2, st2⟩ := instNo X1 hx hZ hown (wd hw 145 rfl) e1 E_a (own_no1 hw) (g := (mkF m 8 #[rv a, .unset] [(.ref a)])) rfl rfl (hb hby d21_8)
  refine own_sp (q := 11) (S' := [(.int (0 : Int32))]) st2 ?_
  clear st2
  refine own_sp (q := 31) (S' := []) (fun _ k_ => XS.ifYes X2.here hx rfl (pc0 := 11) (pc' := 31) rfl (hb hby d21_11) rfl ((if0 _ _).trans (teq (rfl : (0 : Int32) = (0 : Int32))).1) (by decide) (by decide) k_) ?_
  refine own_sp (q := 32) (S' := [(.ref a)]) (fun _ k_ => XS.aloadN X2.here hx rfl (hb hby d21_31) rfl rfl  k_) ?_
  refine own_kcF own_ckE X2 hx hZ hown hml (z := own_m29) (y := own_m21) (wd hw 290 rfl) (wd hw 291 rfl) (mvT hZ (wd hw 292 rfl)) (wd hw 293 rfl) (wd hw 294 rfl) (wd hw 295 rfl) (wd hw 296 rfl) (wd hw 297 rfl) (wd hw 73 rfl) (wd hw 298 rfl) (by decide) E_a (rm_alem l Z a0 hw [] a (3 : Int32) h0 n0 O0 Fz (by decide)) (by decide) (by decide) (W := 0) (Nat.le_of_eq rfl) (argsL := []) (rest := []) (lenOf pd___Z rfl) rfl rfl (hb hby d21_32) rfl e2 (by decide) (by decide) (c' := 0) (s' := 0) rfl rfl (q := 37) rfl fun _ T3 L3 X3 hQ3 => ?_
  obtain ⟨rfl, Nq3, eq3⟩ := hQ3
  have N3 := Fr.app N0 Nq3
  show own_E p e below s _ _ _ T3 (mkF m 37 _ [(.int (0 : Int32))])
  refine own_sp (q := 44) (S' := []) (fun _ k_ => XS.ifYes X3.here hx rfl (pc0 := 37) (pc' := 44) rfl (hb hby d21_37) rfl ((if0 _ _).trans (teq (rfl : (0 : Int32) = (0 : Int32))).1) (by decide) (by decide) k_) ?_
  refine own_sp (q := 45) (S' := [(.ref a)]) (fun _ k_ => XS.aloadN X3.here hx rfl (hb hby d21_44) rfl rfl  k_) ?_
  refine own_kcF own_ckE X3 hx hZ hown hml (z := own_m30) (y := own_m27) (wd hw 299 rfl) (wd hw 300 rfl) (mvT hZ (wd hw 301 rfl)) (wd hw 302 rfl) (wd hw 303 rfl) (wd hw 304 rfl) (wd hw 305 rfl) (wd hw 297 rfl) (wd hw 73 rfl) (wd hw 306 rfl) (by decide) E_a (rm_tar_3 l Z a0 hw [] a t kO mir y0 y1 y2 h0 n0 O0 Fe Fz V_t OV FC MIR I_y0 I_y1 I_y2) (by decide) (by decide) (W := 0) (Nat.le_of_eq rfl) (argsL := []) (rest := []) (lenOf pd____Ljava_lang_Object_ rfl) rfl rfl (hb hby d21_45) rfl eq3 (by decide) (by decide) (c' := 1) (s' := 3) rfl rfl (q := 50) rfl fun _ T4 L4 X4 hQ4 => ?_
  obtain ⟨u4, rfl, Nq4, K4, fq4_0, xq4_fresh_u⟩ := hQ4
  have N4 := Fr.app N3 Nq4
  show own_E p e below s _ _ _ T4 (mkF m 50 _ [(.ref u4)])
  have f5 := own_insK I_y0 K4
  have f6 := own_insK I_y1 K4
  have f7 := own_insK I_y2 K4
  have f8 := O0.keep K4 all0
  have f9 := (Keep.refl h0 []).trans K4 all0
  refine own_kcS own_ckE X4 hx hZ hown hml (y := own_m28) (wd hw 329 rfl) (wd hw 330 rfl) (wd hw 103 rfl) (wd hw 331 rfl) (by decide) (rm_lof_3 l Z a0 hw [] u4 kO y0 y1 y2 T4.heap n0 f8 fq4_0 OV FC f5 f6 f7) (by decide) (by decide) (W := 0) (Nat.le_of_eq rfl) (argsL := [(.ref u4)]) (rest := []) (lenOf pd___Ljava_lang_Object__Ljava_util_List_ rfl) rfl rfl (hb hby d21_50) rfl rfl (by decide) (by decide) (c' := 3) (s' := 8) rfl rfl (q := 53) rfl fun _ T10 L10 X10 hQ10 => ?_
  obtain ⟨x10, uu10, rfl, Nq10, K10, fq10_0, fq10_1, fq10_2, fq10_3, xq10_fresh_x, xq10_fresh_uu⟩ := hQ10
  have N10 := Fr.app N4 Nq10
  show own_E p e below s _ _ _ T10 (mkF m 53 _ [(.ref x10)])
  have f11 := f9.trans K10 all0
  exact own_retA X10 hx hret rfl rfl hlk (hb hby d21_53) (by decide) (by decide) ⟨x10, uu10, rfl, N10, f11, fq10_0, fq10_1, fq10_2, fq10_3, (Nat.le_trans f9.1 xq10_fresh_x), (Nat.le_trans f9.1 xq10_fresh_uu)⟩
def Q_cpy_3 (Z : State) (a : Addr) (t : Addr) (kO : ClassId) (mir : Addr) (y0 : Addr) (y1 : Addr) (y2 : Addr) (h0 : Heap) (n0 : Nat) (v : Option Value) (h : Heap) (L : List Loc) : Prop := ∃ (x : Addr) (uu : Addr), (v = some (.ref x)) ∧ (Fr n0 L) ∧ (Keep h0 h []) ∧ (Exa Z h x ks11) ∧ (Fld Z h x ks11 "elements" ks8 (.ref uu)) ∧ (Fld Z h x ks11 "allowNulls" "Z" (.int (0 : Int32))) ∧ (Arv Z h uu kO (.object ks2) (3 : Int32) [(.ref y0), (.ref y1), (.ref y2)] .null) ∧ (h0.size ≤ x) ∧ (h0.size ≤ uu)
theorem rm_cpy_3 (l : Launch) (Z : State) (a0 : Array Value) (hw : own_HW a0 Z) (ws : List Jvm.Cond) (a : Addr) (t : Addr) (kO : ClassId) (mir : Addr) (y0 : Addr) (y1 : Addr) (y2 : Addr) (h0 : Heap) (n0 : Nat) (O0 : Old Z n0 h0) (E_a : Exa Z h0 a ks6) (Fe : Fld Z h0 a ks6 ks20 ks8 (.ref t)) (Fz : Fld Z h0 a ks6 "size" "I" (.int (3 : Int32))) (V_t : Arv Z h0 t kO (.object ks2) (10 : Int32) [(.ref y0), (.ref y1), (.ref y2), .null, .null, .null, .null, .null, .null, .null] .null) (OV : Ovr Z kO ks2) (FC : Z.vm.findClass ks8 = some kO) (MIR : own_Mir Z ks8 mir) (I_y0 : Ins Z h0 y0 ks2 true) (I_y1 : Ins Z h0 y1 ks2 true) (I_y2 : Ins Z h0 y2 ks2 true) :
    own_MF l own_m32 (Jvm.Cond.code own_m32 bc20 1 (some (.object ks18)) :: ws) (rm4 8 3 8 130) #[(.ref a)] Z h0 (Q_cpy_3 Z a t kO mir y0 y1 y2 h0 n0) := by
  refine own_met (own := ks18) (nme := "copyOf") rfl rfl (plainFor_of_name pn_12) ?_
  intro p e s m below meth c s₁ hx hby hml hown hnm X0 e0 hret hlk hZ
  have N0 := Fr.nil n0
  rw [ef_abci m a]
  refine own_st (T' := s₁) (g' := (mkF m 1 #[rv a] [(.ref a)])) (fun _ k_ => XS.aloadN X0.here hx rfl (hb hby d20_0) rfl rfl  k_) ?_
  refine own_kcS own_ckE X0 hx hZ hown hml (y := own_m31) (wd hw 136 rfl) (wd hw 137 rfl) (wd hw 106 rfl) (wd hw 138 rfl) (by decide) (rm_lcp_3 l Z a0 hw [] a t kO mir y0 y1 y2 h0 n0 O0 E_a Fe Fz V_t OV FC MIR I_y0 I_y1 I_y2) (by decide) (by decide) (W := 0) (Nat.le_of_eq rfl) (argsL := [(.ref a)]) (rest := []) (lenOf pd__Ljava_util_Collection__Ljava_util_List_ rfl) rfl rfl (hb hby d20_1) rfl e0 (by decide) (by decide) (c' := 3) (s' := 8) rfl rfl (q := 4) rfl fun _ T1 L1 X1 hQ1 => ?_
  obtain ⟨x1, uu1, rfl, Nq1, K1, fq1_0, fq1_1, fq1_2, fq1_3, xq1_fresh_x, xq1_fresh_uu⟩ := hQ1
  have N1 := Fr.app N0 Nq1
  show own_E p e below s _ _ _ T1 (mkF m 4 _ [(.ref x1)])
  have f2 := (Keep.refl h0 []).trans K1 all0
  exact own_retA X1 hx hret rfl rfl hlk (hb hby d20_4) (by decide) (by decide) ⟨x1, uu1, rfl, N1, f2, fq1_0, fq1_1, fq1_2, fq1_3, (Nat.le_trans (Keep.refl h0 []).1 xq1_fresh_x), (Nat.le_trans (Keep.refl h0 []).1 xq1_fresh_uu)⟩
theorem own_no2 {Z : State} {a0 : Array Value} (hw : own_HW a0 Z) : ∃ c t, Z.vm.findClass ks11 = some c ∧ Z.vm.findClass ks4 = some t ∧ Z.vm.assignable c t = false := own_NSno (wd hw 140 rfl) (wd hw 389 rfl) (NS.step (wd hw 140 rfl) (NS.step (wd hw 141 rfl) (NS.step (wd hw 142 rfl) (NS.step (wd hw 143 rfl) (own_NSroot (wd hw 144 rfl) (wd hw 389 rfl) (by decide)) (by decide)) (by decide)) (by decide)) (by decide)) (by decide)
/-- an immutable list at ch: List12 or ListN without nulls; ne: what isEmpty answers -/
def own_IL (Z : State) (h : Heap) (ch : Addr) (ne : Int32) : Prop := (Exa Z h ch ks4 ∧ (0 : Int32) = ne) ∨ (Exa Z h ch ks11 ∧ Fld Z h ch ks11 "allowNulls" "Z" (.int (0 : Int32)) ∧ ∃ (uu : Addr) (cl : Cell), Fld Z h ch ks11 "elements" ks8 (.ref uu) ∧ Arr Z h uu cl (.object ks2) ∧ (if cl.slots.size.toInt32 = 0 then (1 : Int32) else 0) = ne)
theorem own_ILe {Z : State} {h h' : Heap} {ch : Addr} {ne : Int32} (F : own_IL Z h ch ne) (E : Ext h h') : own_IL Z h' ch ne := by
  rcases F with ⟨a, b⟩ | ⟨a, b, uu, cl, c, d, f⟩
  · exact Or.inl ⟨a.ext E, b⟩
  · exact Or.inr ⟨a.ext E, b.ext E, uu, cl, c.ext E, d.ext E, f⟩
theorem own_ILk {Z : State} {h h' : Heap} {ch : Addr} {ne : Int32} (F : own_IL Z h ch ne) (K : Keep h h' []) : own_IL Z h' ch ne := own_ILe F (own_ext K)
theorem own_ILn {Z : State} {h : Heap} {ch uu : Addr} {ku : ClassId} {z : Int32} {vs : List Value} {dv : Value} (E : Exa Z h ch ks11) (F : Fld Z h ch ks11 "allowNulls" "Z" (.int (0 : Int32))) (G : Fld Z h ch ks11 "elements" ks8 (.ref uu)) (V : Arv Z h uu ku (.object ks2) z vs dv) (hz : ¬ z = 0) : own_IL Z h ch (0 : Int32) := by
  obtain ⟨cl, A, -, S, N, -⟩ := V
  exact Or.inr ⟨E, F, uu, cl, G, A, by rw [len_of S N, if_neg hz]⟩
theorem d21_14 : own_D bc21 14 (.aload_n 0) 1 := by decide +kernel
theorem d21_15 : own_D bc21 15 (.checkcast 12) 3 := by decide +kernel
theorem d21_18 : own_D bc21 18 (.astore_n 1) 1 := by decide +kernel
theorem d21_19 : own_D bc21 19 (.aload_n 1) 1 := by decide +kernel
theorem d21_20 : own_D bc21 20 (.getfield 14) 3 := by decide +kernel
theorem d21_23 : own_D bc21 23 (.ifCond .ne 8) 3 := by decide +kernel
theorem d21_26 : own_D bc21 26 (.aload_n 0) 1 := by decide +kernel
theorem d21_27 : own_D bc21 27 (.checkcast 18) 3 := by decide +kernel
theorem d21_30 : own_D bc21 30 (.areturn) 1 := by decide +kernel
def Q_lci (Z : State) (ch : Addr) (ne : Int32) (h0 : Heap) (n0 : Nat) (v : Option Value) (h : Heap) (L : List Loc) : Prop := (v = some (.ref ch)) ∧ (Fr n0 L) ∧ (h = h0)
theorem rm_lci (l : Launch) (Z : State) (a0 : Array Value) (hw : own_HW a0 Z) (ws : List Jvm.Cond) (ch : Addr) (ne : Int32) (h0 : Heap) (n0 : Nat) (O0 : Old Z n0 h0) (IL_ch : own_IL Z h0 ch ne) :
    own_MF l own_m31 (Jvm.Cond.code own_m31 bc21 2 (some (.object ks18)) :: ws) (rm4 0 0 0 0) #[(.ref ch)] Z h0 (Q_lci Z ch ne h0 n0) := by
  refine own_met (own := ks19) (nme := "listCopy") rfl rfl (plainFor_of_name pn_13) ?_
  intro p e s m below meth c s₁ hx hby hml hown hnm X0 e0 hret hlk hZ
  have N0 := Fr.nil n0
  rw [ef_lof_1 m ch]
  rcases IL_ch with ⟨E_l, hne⟩ | ⟨E_l, F_n, uu, cl, F_e, A_u, hne⟩
  · refine own_st (T' := s₁) (g' := (mkF m 1 #[rv ch, .unset] [(.ref ch)])) (fun _ k_ => XS.aloadN X0.here hx rfl (hb hby d21_0) rfl rfl  k_) ?_
    obtain ⟨T1, X1, e1, st1⟩ := instY X0 hx hZ hown (wd hw 139 rfl) e0 (Ins.self E_l) (g := (mkF m 1 #[rv ch, .unset] [(.ref ch)])) rfl rfl (hb hby d21_1)
    refine own_sp (q := 4) (S' := [(.int (1 : Int32))]) st1 ?_
    clear st1
    refine own_sp (q := 26) (S' := []) (fun _ k_ => XS.ifYes X1.here hx rfl (pc0 := 4) (pc' := 26) rfl (hb hby d21_4) rfl ((if0 _ _).trans (feq (by decide : ¬ ((1 : Int32) = (0 : Int32)))).2) (by decide) (by decide) k_) ?_
    refine own_sp (q := 27) (S' := [(.ref ch)]) (fun _ k_ => XS.aloadN X1.here hx rfl (hb hby d21_26) rfl rfl  k_) ?_
    obtain ⟨T2, X2, e2, st2⟩ := castY X1 hx hZ hown (wd hw 149 rfl) e1 (Ins.of_exa E_l (wd hw 408 rfl)) (g := (mkF m 27 #[rv ch, .unset] [(.ref ch)])) rfl rfl (hb hby d21_27)
    refine own_sp (q := 30) (S' := [(.ref ch)]) st2 ?_
    clear st2
    exact own_retA X2 hx hret rfl rfl hlk (hb hby d21_30) (by decide) (by decide) ⟨rfl, N0, e2⟩
  · refine own_st (T' := s₁) (g' := (mkF m 1 #[rv ch, .unset] [(.ref ch)])) (fun _ k_ => XS.aloadN X0.here hx rfl (hb hby d21_0) rfl rfl  k_) ?_
    obtain ⟨T3, X3, e3, st3⟩ := instNo X0 hx hZ hown (wd hw 139 rfl) e0 E_l (own_no2 hw) (g := (mkF m 1 #[rv ch, .unset] [(.ref ch)])) rfl rfl (hb hby d21_1)
    refine own_sp (q := 4) (S' := [(.int (0 : Int32))]) st3 ?_
    clear st3
    refine own_sp (q := 7) (S' := []) (fun _ k_ => XS.ifNo X3.here hx rfl (hb hby d21_4) rfl ((if0 _ _).trans (teq (rfl : (0 : Int32) = (0 : Int32))).2) k_) ?_
    refine own_sp (q := 8) (S' := [(.ref ch)]) (fun _ k_ => XS.aloadN X3.here hx rfl (hb hby d21_7) rfl rfl  k_) ?_
    obtain ⟨T4, X4, e4, st4⟩ := instY X3 hx hZ hown (wd hw 145 rfl) e3 (Ins.self E_l) (g := (mkF m 8 #[rv ch, .unset] [(.ref ch)])) rfl rfl (hb hby d21_8)
    refine own_sp (q := 11) (S' := [(.int (1 : Int32))]) st4 ?_
    clear st4
    refine own_sp (q := 14) (S' := []) (fun _ k_ => XS.ifNo X4.here hx rfl (hb hby d21_11) rfl ((if0 _ _).trans (feq (by decide : ¬ ((1 : Int32) = (0 : Int32)))).1) k_) ?_
    refine own_sp (q := 15) (S' := [(.ref ch)]) (fun _ k_ => XS.aloadN X4.here hx rfl (hb hby d21_14) rfl rfl  k_) ?_
    obtain ⟨T5, X5, e5, st5⟩ := castY X4 hx hZ hown (wd hw 145 rfl) e4 (Ins.self E_l) (g := (mkF m 15 #[rv ch, .unset] [(.ref ch)])) rfl rfl (hb hby d21_15)
    refine own_sp (q := 18) (S' := [(.ref ch)]) st5 ?_
    clear st5
    refine own_st (T' := T5) (g' := (mkF m 19 #[rv ch, rv ch] [])) (fun _ k_ => XS.astoreN X5.here hx rfl (hb hby d21_18) rfl rfl (l' := #[rv ch, rv ch]) rfl k_) ?_
    refine own_sp (q := 20) (S' := [(.ref ch)]) (fun _ k_ => XS.aloadN X5.here hx rfl (hb hby d21_19) rfl rfl  k_) ?_
    refine own_kget own_ckE X5 hx hZ hown (Or.inr (wd hw 147 rfl)) Via.refl e5 F_n (hb hby d21_20) (q := 23) rfl fun T6 X6 e6 => ?_
    refine own_sp (q := 26) (S' := []) (fun _ k_ => XS.ifNo X6.here hx rfl (hb hby d21_23) rfl ((if0 _ _).trans (teq (rfl : (0 : Int32) = (0 : Int32))).2) k_) ?_
    refine own_sp (q := 27) (S' := [(.ref ch)]) (fun _ k_ => XS.aloadN X6.here hx rfl (hb hby d21_26) rfl rfl  k_) ?_
    obtain ⟨T7, X7, e7, st7⟩ := castY X6 hx hZ hown (wd hw 149 rfl) e6 (Ins.of_exa E_l (wd hw 150 rfl)) (g := (mkF m 27 #[rv ch, rv ch] [(.ref ch)])) rfl rfl (hb hby d21_27)
    refine own_sp (q := 30) (S' := [(.ref ch)]) st7 ?_
    clear st7
    exact own_retA X7 hx hret rfl rfl hlk (hb hby d21_30) (by decide) (by decide) ⟨rfl, N0, e7⟩
def Q_cpi (Z : State) (ch : Addr) (ne : Int32) (h0 : Heap) (n0 : Nat) (v : Option Value) (h : Heap) (L : List Loc) : Prop := (v = some (.ref ch)) ∧ (Fr n0 L) ∧ (h = h0)
theorem rm_cpi (l : Launch) (Z : State) (a0 : Array Value) (hw : own_HW a0 Z) (ws : List Jvm.Cond) (ch : Addr) (ne : Int32) (h0 : Heap) (n0 : Nat) (O0 : Old Z n0 h0) (IL_ch : own_IL Z h0 ch ne) :
    own_MF l own_m32 (Jvm.Cond.code own_m32 bc20 1 (some (.object ks18)) :: ws) (rm4 1 0 0 13) #[(.ref ch)] Z h0 (Q_cpi Z ch ne h0 n0) := by
  refine own_met (own := ks18) (nme := "copyOf") rfl rfl (plainFor_of_name pn_12) ?_
  intro p e s m below meth c s₁ hx hby hml hown hnm X0 e0 hret hlk hZ
  have N0 := Fr.nil n0
  rw [ef_abci m ch]
  refine own_st (T' := s₁) (g' := (mkF m 1 #[rv ch] [(.ref ch)])) (fun _ k_ => XS.aloadN X0.here hx rfl (hb hby d20_0) rfl rfl  k_) ?_
  refine own_kcS own_ckE X0 hx hZ hown hml (y := own_m31) (wd hw 136 rfl) (wd hw 137 rfl) (wd hw 106 rfl) (wd hw 138 rfl) (by decide) (rm_lci l Z a0 hw [] ch ne h0 n0 O0 IL_ch) (by decide) (by decide) (W := 0) (Nat.le_of_eq rfl) (argsL := [(.ref ch)]) (rest := []) (lenOf pd__Ljava_util_Collection__Ljava_util_List_ rfl) rfl rfl (hb hby d20_1) rfl e0 (by decide) (by decide) (c' := 0) (s' := 0) rfl rfl (q := 4) rfl fun _ T1 L1 X1 hQ1 => ?_
  obtain ⟨rfl, Nq1, eq1⟩ := hQ1
  have N1 := Fr.app N0 Nq1
  show own_E p e below s _ _ _ T1 (mkF m 4 _ [(.ref ch)])
  exact own_retA X1 hx hret rfl rfl hlk (hb hby d20_4) (by decide) (by decide) ⟨rfl, N1, eq1⟩
theorem d60_0 : own_D bc60 0 (.iconst 0) 1 := by decide +kernel
theorem d60_1 : own_D bc60 1 (.ireturn) 1 := by decide +kernel
def Q_iem12 (Z : State) (x : Addr) (h0 : Heap) (n0 : Nat) (v : Option Value) (h : Heap) (L : List Loc) : Prop := (v = some (.int (0 : Int32))) ∧ (Fr n0 L) ∧ (h = h0)
theorem rm_iem12 (l : Launch) (Z : State) (a0 : Array Value) (hw : own_HW a0 Z) (ws : List Jvm.Cond) (x : Addr) (h0 : Heap) (n0 : Nat) (O0 : Old Z n0 h0) :
    own_MF l own_m34 (Jvm.Cond.code own_m34 bc60 1 (some .boolean) :: ws) (rm4 0 0 0 0) #[(.ref x)] Z h0 (Q_iem12 Z x h0 n0) := by
  refine own_met (own := ks4) (nme := "isEmpty") rfl rfl (plainFor_of_name pn_9) ?_
  intro p e s m below meth c s₁ hx hby hml hown hnm X0 e0 hret hlk hZ
  have N0 := Fr.nil n0
  rw [ef_abci m x]
  refine own_st (T' := s₁) (g' := (mkF m 1 #[rv x] [(.int (0 : Int32))])) (fun _ k_ => XS.iconst X0.here hx rfl (hb hby d60_0) k_) ?_
  exact own_retN X0 hx (t := .boolean) hret (by simp) hlk (hb hby d60_1) (by decide) (by decide) ⟨rfl, N0, e0⟩
theorem d22_0 : own_D bc22 0 (.aload_n 0) 1 := by decide +kernel
theorem d22_1 : own_D bc22 1 (.getfield 7) 3 := by decide +kernel
theorem d22_4 : own_D bc22 4 (.arraylength) 1 := by decide +kernel
theorem d22_5 : own_D bc22 5 (.ifCond .ne 7) 3 := by decide +kernel
theorem d22_8 : own_D bc22 8 (.iconst 1) 1 := by decide +kernel
theorem d22_9 : own_D bc22 9 (.goto 4) 3 := by decide +kernel
theorem d22_12 : own_D bc22 12 (.iconst 0) 1 := by decide +kernel
theorem d22_13 : own_D bc22 13 (.ireturn) 1 := by decide +kernel
def Q_iemn (Z : State) (x : Addr) (uu : Addr) (cl : Cell) (h0 : Heap) (n0 : Nat) (v : Option Value) (h : Heap) (L : List Loc) : Prop := (v = some (.int (if cl.slots.size.toInt32 = 0 then (1 : Int32) else 0))) ∧ (Fr n0 L) ∧ (h = h0)
theorem rm_iemn (l : Launch) (Z : State) (a0 : Array Value) (hw : own_HW a0 Z) (ws : List Jvm.Cond) (x : Addr) (uu : Addr) (cl : Cell) (h0 : Heap) (n0 : Nat) (O0 : Old Z n0 h0) (F_e : Fld Z h0 x ks11 "elements" ks8 (.ref uu)) (A_u : Arr Z h0 uu cl (.object ks2)) :
    own_MF l own_m35 (Jvm.Cond.code own_m35 bc22 1 (some .boolean) :: ws) (rm4 0 0 0 0) #[(.ref x)] Z h0 (Q_iemn Z x uu cl h0 n0) := by
  refine own_met (own := ks11) (nme := "isEmpty") rfl rfl (plainFor_of_name pn_10) ?_
  intro p e s m below meth c s₁ hx hby hml hown hnm X0 e0 hret hlk hZ
  have N0 := Fr.nil n0
  rw [ef_abci m x]
  refine own_st (T' := s₁) (g' := (mkF m 1 #[rv x] [(.ref x)])) (fun _ k_ => XS.aloadN X0.here hx rfl (hb hby d22_0) rfl rfl  k_) ?_
  refine own_kget own_ckE X0 hx hZ hown (host := "") (Or.inl (wd hw 160 rfl)) Via.refl e0 F_e (hb hby d22_1) (q := 4) rfl fun T1 X1 e1 => ?_
  refine own_sp (q := 5) (S' := [(.int cl.slots.size.toInt32)]) (fun t_ k_ => X1.arraylength hx (by rw [e1]; exact A_u.1) (State.isArrayOf_alike hZ.alike A_u.2.1) (g := (mkF m 4 #[rv x] [(.ref uu)])) rfl rfl (hb hby d22_4) _ k_) ?_
  by_cases hc3 : cl.slots.size.toInt32 = (0 : Int32)
  · refine own_sp (q := 8) (S' := []) (fun _ k_ => XS.ifNo X1.here hx rfl (hb hby d22_5) rfl ((if0 _ _).trans (teq hc3).2) k_) ?_
    refine own_sp (q := 9) (S' := [(.int (1 : Int32))]) (fun _ k_ => XS.iconst X1.here hx rfl (hb hby d22_8) k_) ?_
    refine own_sp (q := 13) (S' := [(.int (1 : Int32))]) (fun _ k_ => XS.goto X1.here hx rfl (pc0 := 9) (pc' := 13) rfl (hb hby d22_9) (by decide) (by decide) k_) ?_
    exact own_retN X1 hx (t := .boolean) hret (by simp) hlk (hb hby d22_13) (by decide) (by decide) ⟨(by rw [if_pos hc3]; rfl), N0, e1⟩
  · refine own_sp (q := 12) (S' := []) (fun _ k_ => XS.ifYes X1.here hx rfl (pc0 := 5) (pc' := 12) rfl (hb hby d22_5) rfl ((if0 _ _).trans (feq hc3).2) (by decide) (by decide) k_) ?_
    refine own_sp (q := 13) (S' := [(.int (0 : Int32))]) (fun _ k_ => XS.iconst X1.here hx rfl (hb hby d22_12) k_) ?_
    exact own_retN X1 hx (t := .boolean) hret (by simp) hlk (hb hby d22_13) (by decide) (by decide) ⟨(by rw [if_neg hc3]; rfl), N0, e1⟩
theorem d19_0 : own_D bc19 0 (.aload_n 0) 1 := by decide +kernel
theorem d19_1 : own_D bc19 1 (.ifnonnull 12) 3 := by decide +kernel
theorem d19_13 : own_D bc19 13 (.aload_n 0) 1 := by decide +kernel
theorem d19_14 : own_D bc19 14 (.areturn) 1 := by decide +kernel
def Q_rnn2 (Z : State) (x : Addr) (yy : Addr) (h0 : Heap) (n0 : Nat) (v : Option Value) (h : Heap) (L : List Loc) : Prop := (v = some (.ref x)) ∧ (Fr n0 L) ∧ (h = h0)
theorem rm_rnn2 (l : Launch) (Z : State) (a0 : Array Value) (hw : own_HW a0 Z) (ws : List Jvm.Cond) (x : Addr) (yy : Addr) (h0 : Heap) (n0 : Nat) (O0 : Old Z n0 h0) :
    own_MF l own_m36 (Jvm.Cond.code own_m36 bc19 2 (some (.object ks2)) :: ws) (rm4 0 0 0 0) #[(.ref x), (.ref yy)] Z h0 (Q_rnn2 Z x yy h0 n0) := by
  refine own_met (own := "java/util/Objects") (nme := "requireNonNull") rfl rfl (plainFor_of_name pn_8) ?_
  intro p e s m below meth c s₁ hx hby hml hown hnm X0 e0 hret hlk hZ
  have N0 := Fr.nil n0
  rw [ef_ini1_2 m x yy]
  refine own_st (T' := s₁) (g' := (mkF m 1 #[rv x, rv yy] [(.ref x)])) (fun _ k_ => XS.aloadN X0.here hx rfl (hb hby d19_0) rfl rfl  k_) ?_
  refine own_sp (q := 13) (S' := []) (fun _ k_ => XS.ifnonnullYes X0.here hx rfl (pc0 := 1) (pc' := 13) rfl (hb hby d19_1) rfl (by decide) (by decide) k_) ?_
  refine own_sp (q := 14) (S' := [(.ref x)]) (fun _ k_ => XS.aloadN X0.here hx rfl (hb hby d19_13) rfl rfl  k_) ?_
  exact own_retA X0 hx hret rfl rfl hlk (hb hby d19_14) (by decide) (by decide) ⟨rfl, N0, e0⟩
theorem d23_0 : own_D bc23 0 (.aload_n 0) 1 := by decide +kernel
theorem d23_1 : own_D bc23 1 (.getfield 13) 3 := by decide +kernel
theorem d23_4 : own_D bc23 4 (.ifnull 7) 3 := by decide +kernel
theorem d23_7 : own_D bc23 7 (.iconst 1) 1 := by decide +kernel
theorem d23_8 : own_D bc23 8 (.goto 4) 3 := by decide +kernel
theorem d23_11 : own_D bc23 11 (.iconst 0) 1 := by decide +kernel
theorem d23_12 : own_D bc23 12 (.ireturn) 1 := by decide +kernel
theorem pn_14 : plainName "java/util/Optional" = true := by first | (simp [plainName, overriddenIn]; done) | decide +kernel
def Q_ispr (Z : State) (ho : Addr) (hv : Value) (h0 : Heap) (n0 : Nat) (v : Option Value) (h : Heap) (L : List Loc) : Prop := (v = some (.int (own_pv hv))) ∧ (Fr n0 L) ∧ (h = h0)
theorem rm_ispr (l : Launch) (Z : State) (a0 : Array Value) (hw : own_HW a0 Z) (ws : List Jvm.Cond) (ho : Addr) (hv : Value) (h0 : Heap) (n0 : Nat) (O0 : Old Z n0 h0) (F_ho : Fld Z h0 ho ks14 "value" ks12 hv) (hhv : hv.isRef = true) :
    own_MF l own_m37 (Jvm.Cond.code own_m37 bc23 1 (some .boolean) :: ws) (rm4 0 0 0 0) #[(.ref ho)] Z h0 (Q_ispr Z ho hv h0 n0) := by
  refine own_met (own := ks14) (nme := "isPresent") rfl rfl (plainFor_of_name pn_14) ?_
  intro p e s m below meth c s₁ hx hby hml hown hnm X0 e0 hret hlk hZ
  have N0 := Fr.nil n0
  rw [ef_abci m ho]
  refine own_st (T' := s₁) (g' := (mkF m 1 #[rv ho] [(.ref ho)])) (fun _ k_ => XS.aloadN X0.here hx rfl (hb hby d23_0) rfl rfl  k_) ?_
  refine own_kget own_ckE X0 hx hZ hown (host := "") (Or.inl (wd hw 167 rfl)) Via.refl e0 F_ho (hb hby d23_1) (q := 4) rfl fun T1 X1 e1 => ?_
  rcases ref_cases hhv with rfl | ⟨hva, rfl⟩
  · refine own_sp (q := 11) (S' := []) (fun _ k_ => XS.ifnullYes X1.here hx rfl (pc0 := 4) (pc' := 11) rfl (hb hby d23_4) rfl (by decide) (by decide) k_) ?_
    refine own_sp (q := 12) (S' := [(.int (0 : Int32))]) (fun _ k_ => XS.iconst X1.here hx rfl (hb hby d23_11) k_) ?_
    exact own_retN X1 hx (t := .boolean) hret (by simp) hlk (hb hby d23_12) (by decide) (by decide) ⟨rfl, N0, e1⟩
  · refine own_sp (q := 7) (S' := []) (fun _ k_ => XS.ifnullNo X1.here hx rfl (hb hby d23_4) rfl k_) ?_
    refine own_sp (q := 8) (S' := [(.int (1 : Int32))]) (fun _ k_ => XS.iconst X1.here hx rfl (hb hby d23_7) k_) ?_
    refine own_sp (q := 12) (S' := [(.int (1 : Int32))]) (fun _ k_ => XS.goto X1.here hx rfl (pc0 := 8) (pc' := 12) rfl (hb hby d23_8) (by decide) (by decide) k_) ?_
    exact own_retN X1 hx (t := .boolean) hret (by simp) hlk (hb hby d23_12) (by decide) (by decide) ⟨rfl, N0, e1⟩
theorem d16_0 : own_D bc16 0 (.getstatic 1) 3 := by decide +kernel
theorem d16_3 : own_D bc16 3 (.astore_n 0) 1 := by decide +kernel
theorem d16_4 : own_D bc16 4 (.aload_n 0) 1 := by decide +kernel
theorem d16_5 : own_D bc16 5 (.areturn) 1 := by decide +kernel
theorem ef_opem (m : MethodId)  : entryFrame m #[] 1 = mkF m 0 #[.unset] [] := rfl
def Q_opem (Z : State) (oe : Addr) (h0 : Heap) (n0 : Nat) (v : Option Value) (h : Heap) (L : List Loc) : Prop := (v = some (.ref oe)) ∧ (Fr n0 L) ∧ (h = h0)
theorem rm_opem (l : Launch) (Z : State) (a0 : Array Value) (hw : own_HW a0 Z) (ws : List Jvm.Cond) (oe : Addr) (h0 : Heap) (n0 : Nat) (O0 : Old Z n0 h0) (S_oe : Sta Z Z.heap ks14 "EMPTY" ks15 (.ref oe)) :
    own_MF l own_m38 (Jvm.Cond.code own_m38 bc16 1 (some (.object ks14)) :: ws) (rm4 0 0 0 0) #[] Z h0 (Q_opem Z oe h0 n0) := by
  refine own_met (own := ks14) (nme := "empty") rfl rfl (plainFor_of_name pn_14) ?_
  intro p e s m below meth c s₁ hx hby hml hown hnm X0 e0 hret hlk hZ
  have N0 := Fr.nil n0
  rw [ef_opem m ]
  refine own_kgs own_ckE X0 hx hZ hown (host := "") (Or.inl (wd hw 112 rfl)) Via.refl e0 (S_oe.ext O0.2) (hb hby d16_0) (q := 3) rfl fun T1 X1 e1 => ?_
  refine own_st (T' := T1) (g' := (mkF m 4 #[rv oe] [])) (fun _ k_ => XS.astoreN X1.here hx rfl (hb hby d16_3) rfl rfl (l' := #[rv oe]) rfl k_) ?_
  refine own_sp (q := 5) (S' := [(.ref oe)]) (fun _ k_ => XS.aloadN X1.here hx rfl (hb hby d16_4) rfl rfl  k_) ?_
  exact own_retA X1 hx hret rfl rfl hlk (hb hby d16_5) (by decide) (by decide) ⟨rfl, N0, e1⟩
theorem d15_0 : own_D bc15 0 (.getstatic 90) 3 := by decide +kernel
theorem d15_3 : own_D bc15 3 (.areturn) 1 := by decide +kernel
theorem ef_lof0 (m : MethodId)  : entryFrame m #[] 0 = mkF m 0 #[] [] := rfl
def Q_lof0 (Z : State) (el : Addr) (h0 : Heap) (n0 : Nat) (v : Option Value) (h : Heap) (L : List Loc) : Prop := (v = some (.ref el)) ∧ (Fr n0 L) ∧ (h = h0)
theorem rm_lof0 (l : Launch) (Z : State) (a0 : Array Value) (hw : own_HW a0 Z) (ws : List Jvm.Cond) (el : Addr) (h0 : Heap) (n0 : Nat) (O0 : Old Z n0 h0) (S_el : Sta Z Z.heap ks19 "EMPTY_LIST" "Ljava/util/ImmutableCollections$ListN;" (.ref el)) (IL_el : own_IL Z Z.heap el (1 : Int32)) :
    own_MF l own_m39 (Jvm.Cond.code own_m39 bc15 0 (some (.object ks18)) :: ws) (rm4 0 0 0 0) #[] Z h0 (Q_lof0 Z el h0 n0) := by
  refine own_met (own := ks18) (nme := "of") rfl rfl (plainFor_of_name pn_12) ?_
  intro p e s m below meth c s₁ hx hby hml hown hnm X0 e0 hret hlk hZ
  have N0 := Fr.nil n0
  rw [ef_lof0 m ]
  refine own_kgs own_ckE X0 hx hZ hown (host := "") (Or.inl (wd hw 105 rfl)) Via.refl e0 (S_el.ext O0.2) (hb hby d15_0) (q := 3) rfl fun T1 X1 e1 => ?_
  exact own_retA X1 hx hret rfl rfl hlk (hb hby d15_3) (by decide) (by decide) ⟨rfl, N0, e1⟩
theorem d33_0 : own_D bc33 0 (.aload_n 0) 1 := by decide +kernel
theorem d33_1 : own_D bc33 1 (.aload_n 1) 1 := by decide +kernel
theorem d33_2 : own_D bc33 2 (.if_acmp .ne 5) 3 := by decide +kernel
theorem d33_5 : own_D bc33 5 (.iconst 1) 1 := by decide +kernel
theorem d33_6 : own_D bc33 6 (.ireturn) 1 := by decide +kernel
theorem ef_opeq (m : MethodId) (x0 : Addr) (x1 : Addr) : entryFrame m #[(.ref x0), (.ref x1)] 3 = mkF m 0 #[rv x0, rv x1, .unset] [] := rfl
def Q_opeq (Z : State) (x : Addr) (h0 : Heap) (n0 : Nat) (v : Option Value) (h : Heap) (L : List Loc) : Prop := (v = some (.int (1 : Int32))) ∧ (Fr n0 L) ∧ (h = h0)
theorem rm_opeq (l : Launch) (Z : State) (a0 : Array Value) (hw : own_HW a0 Z) (ws : List Jvm.Cond) (x : Addr) (h0 : Heap) (n0 : Nat) (O0 : Old Z n0 h0) :
    own_MF l own_m40 (Jvm.Cond.code own_m40 bc33 3 (some .boolean) :: ws) (rm4 0 0 0 0) #[(.ref x), (.ref x)] Z h0 (Q_opeq Z x h0 n0) := by
  refine own_met (own := ks14) (nme := "equals") rfl rfl (plainFor_of_name pn_14) ?_
  intro p e s m below meth c s₁ hx hby hml hown hnm X0 e0 hret hlk hZ
  have N0 := Fr.nil n0
  rw [ef_opeq m x x]
  refine own_st (T' := s₁) (g' := (mkF m 1 #[rv x, rv x, .unset] [(.ref x)])) (fun _ k_ => XS.aloadN X0.here hx rfl (hb hby d33_0) rfl rfl  k_) ?_
  refine own_sp (q := 2) (S' := [(.ref x), (.ref x)]) (fun _ k_ => XS.aloadN X0.here hx rfl (hb hby d33_1) rfl rfl  k_) ?_
  refine own_sp (q := 5) (S' := []) (fun _ k_ => Jvm.RoadKit.acmp (g := (mkF m 2 #[rv x, rv x, .unset] [(.ref x), (.ref x)])) X0 hx rfl rfl rfl (pc0 := 2) (pc' := 5) (same := true) rfl (hb hby d33_2) rfl (decide_eq_true rfl) (by decide) (by decide) k_) ?_
  refine own_sp (q := 6) (S' := [(.int (1 : Int32))]) (fun _ k_ => XS.iconst X0.here hx rfl (hb hby d33_5) k_) ?_
  exact own_retN X0 hx (t := .boolean) hret (by simp) hlk (hb hby d33_6) (by decide) (by decide) ⟨rfl, N0, e0⟩
theorem d27_0 : own_D bc27 0 (.aload_n 0) 1 := by decide +kernel
theorem d27_1 : own_D bc27 1 (.aload_n 1) 1 := by decide +kernel
theorem d27_2 : own_D bc27 2 (.if_acmp .ne 5) 3 := by decide +kernel
theorem d27_5 : own_D bc27 5 (.iconst 1) 1 := by decide +kernel
theorem d27_6 : own_D bc27 6 (.ireturn) 1 := by decide +kernel
def Q_eqs (Z : State) (x : Addr) (h0 : Heap) (n0 : Nat) (v : Option Value) (h : Heap) (L : List Loc) : Prop := (v = some (.int (1 : Int32))) ∧ (Fr n0 L) ∧ (h = h0)
theorem rm_eqs (l : Launch) (Z : State) (a0 : Array Value) (hw : own_HW a0 Z) (ws : List Jvm.Cond) (x : Addr) (h0 : Heap) (n0 : Nat) (O0 : Old Z n0 h0) :
    own_MF l own_m41 (Jvm.Cond.code own_m41 bc27 3 (some .boolean) :: ws) (rm4 0 0 0 0) #[(.ref x), (.ref x)] Z h0 (Q_eqs Z x h0 n0) := by
  refine own_met (own := ks10) (nme := "equals") rfl rfl (plainFor_of_name pn_1) ?_
  intro p e s m below meth c s₁ hx hby hml hown hnm X0 e0 hret hlk hZ
  have N0 := Fr.nil n0
  rw [ef_opeq m x x]
  refine own_st (T' := s₁) (g' := (mkF m 1 #[rv x, rv x, .unset] [(.ref x)])) (fun _ k_ => XS.aloadN X0.here hx rfl (hb hby d27_0) rfl rfl  k_) ?_
  refine own_sp (q := 2) (S' := [(.ref x), (.ref x)]) (fun _ k_ => XS.aloadN X0.here hx rfl (hb hby d27_1) rfl rfl  k_) ?_
  refine own_sp (q := 5) (S' := []) (fun _ k_ => Jvm.RoadKit.acmp (g := (mkF m 2 #[rv x, rv x, .unset] [(.ref x), (.ref x)])) X0 hx rfl rfl rfl (pc0 := 2) (pc' := 5) (same := true) rfl (hb hby d27_2) rfl (decide_eq_true rfl) (by decide) (by decide) k_) ?_
  refine own_sp (q := 6) (S' := [(.int (1 : Int32))]) (fun _ k_ => XS.iconst X0.here hx rfl (hb hby d27_5) k_) ?_
  exact own_retN X0 hx (t := .boolean) hret (by simp) hlk (hb hby d27_6) (by decide) (by decide) ⟨rfl, N0, e0⟩
theorem d58_0 : own_D bc58 0 (.aload_n 0) 1 := by decide +kernel
theorem d58_1 : own_D bc58 1 (.invokespecial 7) 3 := by decide +kernel
theorem d58_4 : own_D bc58 4 (.aload_n 0) 1 := by decide +kernel
theorem d58_5 : own_D bc58 5 (.aload_n 1) 1 := by decide +kernel
theorem d58_6 : own_D bc58 6 (.putfield 13) 3 := by decide +kernel
theorem d58_9 : own_D bc58 9 (.return_) 1 := by decide +kernel
def Q_opin (Z : State) (x : Addr) (y0 : Addr) (h0 : Heap) (n0 : Nat) (v : Option Value) (h : Heap) (L : List Loc) : Prop := (v = none) ∧ (Fr n0 L) ∧ (Keep h0 h [x]) ∧ (Exa Z h x ks14) ∧ (Fld Z h x ks14 "value" ks12 (.ref y0))
theorem rm_opin (l : Launch) (Z : State) (a0 : Array Value) (hw : own_HW a0 Z) (ws : List Jvm.Cond) (x : Addr) (y0 : Addr) (h0 : Heap) (n0 : Nat) (O0 : Old Z n0 h0) (EX : Exa Z h0 x ks14) (FX : Fld Z h0 x ks14 "value" ks12 .null) (fx : n0 ≤ x) :
    own_MF l own_m42 (Jvm.Cond.code own_m42 bc58 2 none :: ws) (rm4 1 0 0 12) #[(.ref x), (.ref y0)] Z h0 (Q_opin Z x y0 h0 n0) := by
  refine own_met (own := ks14) (nme := "<init>") rfl rfl (plainFor_of_name pn_14) ?_
  intro p e s m below meth c s₁ hx hby hml hown hnm X0 e0 hret hlk hZ
  have N0 := Fr.nil n0
  rw [ef_ini1_2 m x y0]
  refine own_st (T' := s₁) (g' := (mkF m 1 #[rv x, rv y0] [(.ref x)])) (fun _ k_ => XS.aloadN X0.here hx rfl (hb hby d58_0) rfl rfl  k_) ?_
  obtain ⟨T1, X1, e1, st1⟩ := initO X0 hx hZ hown (wd hw 387 rfl) (wd hw 39 rfl) (wd hw 40 rfl) e0 (g := (mkF m 1 #[rv x, rv y0] [(.ref x)])) rfl (by rw [hml]; rfl) rfl (hb hby d58_1) (by decide) (W := 0) (by show 2 * 0 + _ ≤ _; exact Nat.le_of_eq rfl) (by decide)
  refine own_sp (q := 4) (S' := []) st1 ?_
  clear st1
  refine own_sp (q := 5) (S' := [(.ref x)]) (fun _ k_ => XS.aloadN X1.here hx rfl (hb hby d58_4) rfl rfl  k_) ?_
  refine own_sp (q := 6) (S' := [(.ref y0), (.ref x)]) (fun _ k_ => XS.aloadN X1.here hx rfl (hb hby d58_5) rfl rfl  k_) ?_
  refine own_kput own_ckE X1 hx hZ hown (host := "") (Or.inl (wd hw 167 rfl)) Via.refl e1 FX EX (Or.inr ⟨(wd hw 168 rfl), rfl, hnm⟩) (wd hw 381 rfl) (ty := (.object ks2)) (by decide) rfl rfl (hb hby d58_6) (q := 9) rfl fun T2 h2 X2 e2 W2 => ?_
  have Fw2 : Fld Z h2 x ks14 "value" ks12 (.ref y0) := Fld.same W2 FX
  have N2 := Fr.snoc X2 N0 fx
  have f3 := (Keep.refl h0 [x]).wr W2 (Or.inl (List.mem_of_getElem? (i := 0) rfl))
  have f4 := EX.wr W2
  exact own_retV X2 hx hret hlk (hb hby d58_9) (by decide) (by decide) (by rw [e2]; exact ⟨rfl, N2, f3, f4, Fw2⟩)
def Q_rnn1 (Z : State) (x : Addr) (h0 : Heap) (n0 : Nat) (v : Option Value) (h : Heap) (L : List Loc) : Prop := (v = some (.ref x)) ∧ (Fr n0 L) ∧ (h = h0)
theorem rm_rnn1 (l : Launch) (Z : State) (a0 : Array Value) (hw : own_HW a0 Z) (ws : List Jvm.Cond) (x : Addr) (h0 : Heap) (n0 : Nat) (O0 : Old Z n0 h0) :
    own_MF l own_m19 (Jvm.Cond.code own_m19 bc50 1 (some (.object ks2)) :: ws) (rm4 0 0 0 0) #[(.ref x)] Z h0 (Q_rnn1 Z x h0 n0) := by
  refine own_met (own := "java/util/Objects") (nme := "requireNonNull") rfl rfl (plainFor_of_name pn_8) ?_
  intro p e s m below meth c s₁ hx hby hml hown hnm X0 e0 hret hlk hZ
  have N0 := Fr.nil n0
  rw [ef_abci m x]
  refine own_st (T' := s₁) (g' := (mkF m 1 #[rv x] [(.ref x)])) (fun _ k_ => XS.aloadN X0.here hx rfl (hb hby d50_0) rfl rfl  k_) ?_
  refine own_sp (q := 12) (S' := []) (fun _ k_ => XS.ifnonnullYes X0.here hx rfl (pc0 := 1) (pc' := 12) rfl (hb hby d50_1) rfl (by decide) (by decide) k_) ?_
  refine own_sp (q := 13) (S' := [(.ref x)]) (fun _ k_ => XS.aloadN X0.here hx rfl (hb hby d50_12) rfl rfl  k_) ?_
  exact own_retA X0 hx hret rfl rfl hlk (hb hby d50_13) (by decide) (by decide) ⟨rfl, N0, e0⟩
theorem d57_0 : own_D bc57 0 (.new 2) 3 := by decide +kernel
theorem d57_3 : own_D bc57 3 (.dup) 1 := by decide +kernel
theorem d57_4 : own_D bc57 4 (.aload_n 0) 1 := by decide +kernel
theorem d57_5 : own_D bc57 5 (.invokestatic 17) 3 := by decide +kernel
theorem d57_8 : own_D bc57 8 (.invokespecial 23) 3 := by decide +kernel
theorem d57_11 : own_D bc57 11 (.areturn) 1 := by decide +kernel
def Q_opof (Z : State) (y0 : Addr) (h0 : Heap) (n0 : Nat) (v : Option Value) (h : Heap) (L : List Loc) : Prop := ∃ (b : Addr), (v = some (.ref b)) ∧ (Fr n0 L) ∧ (Keep h0 h []) ∧ (Exa Z h b ks14) ∧ (Fld Z h b ks14 "value" ks12 (.ref y0)) ∧ (h0.size ≤ b)
theorem rm_opof (l : Launch) (Z : State) (a0 : Array Value) (hw : own_HW a0 Z) (ws : List Jvm.Cond) (y0 : Addr) (h0 : Heap) (n0 : Nat) (O0 : Old Z n0 h0) :
    own_MF l own_m43 (Jvm.Cond.code own_m43 bc57 1 (some (.object ks14)) :: ws) (rm4 2 1 1 26) #[(.ref y0)] Z h0 (Q_opof Z y0 h0 n0) := by
  refine own_met (own := ks14) (nme := "of") rfl rfl (plainFor_of_name pn_14) ?_
  intro p e s m below meth c s₁ hx hby hml hown hnm X0 e0 hret hlk hZ
  have N0 := Fr.nil n0
  rw [ef_abci m y0]
  obtain ⟨T1, h1, X1, e1, E1, A1, D1, -, st1⟩ := newO X0 hx hZ hown (wd hw 380 rfl) (wd hw 381 rfl) (wd hw 110 rfl) e0 (g := (mkF m 0 #[rv y0] [])) rfl (hb hby d57_0) (by decide) (by decide)
  obtain ⟨b1, g1⟩ : ∃ z, z = h0.size := ⟨_, rfl⟩
  rw [← g1] at A1 D1 st1
  have fr1 : n0 ≤ b1 := Nat.le_trans (own_z O0) (Nat.le_of_eq g1.symm)
  have sz1 : h0.size ≤ b1 := Nat.le_trans (Keep.refl h0 []).1 (Nat.le_of_eq g1.symm)
  have F1_value : Fld Z h1 b1 ks14 "value" ks12 .null := D1 (Or.inr (wd hw 168 rfl)) (ty := (.object ks2)) (by decide)
  refine own_st (T' := T1) (g' := (mkF m 3 #[rv y0] [(.ref b1)])) st1 ?_
  clear st1
  refine own_sp (q := 4) (S' := [(.ref b1), (.ref b1)]) (fun _ k_ => XS.dup X1.here hx rfl (hb hby d57_3) rfl rfl k_) ?_
  refine own_sp (q := 5) (S' := [(.ref y0), (.ref b1), (.ref b1)]) (fun _ k_ => XS.aloadN X1.here hx rfl (hb hby d57_4) rfl rfl  k_) ?_
  have f2 := O0.ext E1
  refine own_kcS own_ckE X1 hx hZ hown hml (y := own_m19) (wd hw 382 rfl) (wd hw 337 rfl) (wd hw 127 rfl) (wd hw 338 rfl) (by decide) (rm_rnn1 l Z a0 hw [] y0 h1 n0 f2) (by decide) (by decide) (W := 2) (Nat.le_of_eq rfl) (argsL := [(.ref y0)]) (rest := [(.ref b1), (.ref b1)]) (lenOf pd__Ljava_lang_Object__Ljava_lang_Object_ rfl) rfl rfl (hb hby d57_5) rfl e1 (by decide) (by decide) (c' := 1) (s' := 1) rfl rfl (q := 8) rfl fun _ T3 L3 X3 hQ3 => ?_
  obtain ⟨rfl, Nq3, eq3⟩ := hQ3
  have N3 := Fr.app N0 Nq3
  show own_E p e below s _ _ _ T3 (mkF m 8 _ [(.ref y0), (.ref b1), (.ref b1)])
  refine own_kcI own_ckE X3 hx hZ hown hml (y := own_m42) rfl (wd hw 383 rfl) (wd hw 384 rfl) (wd hw 110 rfl) (wd hw 386 rfl) (by decide) (a := b1) (rm_opin l Z a0 hw [] b1 y0 h1 n0 f2 A1 F1_value fr1) (by decide) (by decide) (W := 1) (Nat.le_of_eq rfl) (argsL := [(.ref y0)]) (rest := [(.ref b1)]) (lenOf pd__Ljava_lang_Object__V rfl) rfl rfl (hb hby d57_8) rfl eq3 (by decide) (by decide) (c' := 1) (s' := 1) rfl rfl (q := 11) rfl fun _ T4 L4 X4 hQ4 => ?_
  obtain ⟨rfl, Nq4, K4, fq4_0, fq4_1⟩ := hQ4
  have N4 := Fr.app N3 Nq4
  show own_E p e below s _ _ _ T4 (mkF m 11 _ [(.ref b1)])
  have f5 := (Keep.refl h0 []).ext E1
  have f6 := f5.trans K4 (allS (Or.inr sz1) all0)
  exact own_retA X4 hx hret rfl rfl hlk (hb hby d57_11) (by decide) (by decide) ⟨b1, rfl, N4, f6, fq4_0, fq4_1, sz1⟩
theorem d18_0 : own_D bc18 0 (.aload_n 0) 1 := by decide +kernel
theorem d18_1 : own_D bc18 1 (.invokespecial 1) 3 := by decide +kernel
theorem d18_4 : own_D bc18 4 (.return_) 1 := by decide +kernel
theorem pn_15 : plainName "java/lang/Record" = true := by first | (simp [plainName, overriddenIn]; done) | decide +kernel
def Q_rec (Z : State) (x : Addr) (h0 : Heap) (n0 : Nat) (v : Option Value) (h : Heap) (L : List Loc) : Prop := (v = none) ∧ (Fr n0 L) ∧ (h = h0)
theorem rm_rec (l : Launch) (Z : State) (a0 : Array Value) (hw : own_HW a0 Z) (ws : List Jvm.Cond) (x : Addr) (h0 : Heap) (n0 : Nat) (O0 : Old Z n0 h0) :
    own_MF l own_m44 (Jvm.Cond.code own_m44 bc18 1 none :: ws) (rm4 1 0 0 12) #[(.ref x)] Z h0 (Q_rec Z x h0 n0) := by
  refine own_met (own := "java/lang/Record") (nme := "<init>") rfl rfl (plainFor_of_name pn_15) ?_
  intro p e s m below meth c s₁ hx hby hml hown hnm X0 e0 hret hlk hZ
  have N0 := Fr.nil n0
  rw [ef_abci m x]
  refine own_st (T' := s₁) (g' := (mkF m 1 #[rv x] [(.ref x)])) (fun _ k_ => XS.aloadN X0.here hx rfl (hb hby d18_0) rfl rfl  k_) ?_
  obtain ⟨T1, X1, e1, st1⟩ := initO X0 hx hZ hown (wd hw 121 rfl) (wd hw 39 rfl) (wd hw 40 rfl) e0 (g := (mkF m 1 #[rv x] [(.ref x)])) rfl (by rw [hml]; rfl) rfl (hb hby d18_1) (by decide) (W := 0) (by show 2 * 0 + _ ≤ _; exact Nat.le_of_eq rfl) (by decide)
  refine own_sp (q := 4) (S' := []) st1 ?_
  clear st1
  exact own_retV X1 hx hret hlk (hb hby d18_4) (by decide) (by decide) ⟨rfl, N0, e1⟩
theorem d17_135 : own_D bc17 135 (.aload_n 0) 1 := by decide +kernel
theorem d17_136 : own_D bc17 136 (.aload_n 1) 1 := by decide +kernel
theorem d17_137 : own_D bc17 137 (.putfield 55) 3 := by decide +kernel
theorem d17_140 : own_D bc17 140 (.aload_n 0) 1 := by decide +kernel
theorem d17_141 : own_D bc17 141 (.aload_n 2) 1 := by decide +kernel
theorem d17_142 : own_D bc17 142 (.putfield 61) 3 := by decide +kernel
theorem d17_145 : own_D bc17 145 (.aload_n 0) 1 := by decide +kernel
theorem d17_146 : own_D bc17 146 (.iload_n 3) 1 := by decide +kernel
theorem d17_147 : own_D bc17 147 (.putfield 64) 3 := by decide +kernel
theorem d17_150 : own_D bc17 150 (.aload_n 0) 1 := by decide +kernel
theorem d17_151 : own_D bc17 151 (.aload 4) 2 := by decide +kernel
theorem d17_153 : own_D bc17 153 (.putfield 68) 3 := by decide +kernel
theorem d17_156 : own_D bc17 156 (.aload_n 0) 1 := by decide +kernel
theorem d17_157 : own_D bc17 157 (.aload 5) 2 := by decide +kernel
theorem d17_159 : own_D bc17 159 (.putfield 71) 3 := by decide +kernel
theorem d17_162 : own_D bc17 162 (.aload_n 0) 1 := by decide +kernel
theorem d17_163 : own_D bc17 163 (.iload 6) 2 := by decide +kernel
theorem d17_165 : own_D bc17 165 (.putfield 75) 3 := by decide +kernel
theorem d17_168 : own_D bc17 168 (.aload_n 0) 1 := by decide +kernel
theorem d17_169 : own_D bc17 169 (.aload 7) 2 := by decide +kernel
theorem d17_171 : own_D bc17 171 (.putfield 78) 3 := by decide +kernel
theorem d17_174 : own_D bc17 174 (.aload_n 0) 1 := by decide +kernel
theorem d17_175 : own_D bc17 175 (.aload 8) 2 := by decide +kernel
theorem d17_177 : own_D bc17 177 (.putfield 82) 3 := by decide +kernel
theorem d17_180 : own_D bc17 180 (.return_) 1 := by decide +kernel
theorem seg_p135 (h0 : Heap) (hB : Heap) (n0 : Nat) (a : Addr) (ch : Addr) (nm : Addr) (kd : Addr) (rq : Int32) (ds : Addr) (wn : Int32) (ro : Addr) (ho : Addr) (hv : Value) (w_TEXT : Addr) (P : Option Value → Heap → List Loc → Vm → Prop) (R : Room) (kc : Nat) (ks : Nat)
    (X0 : Stand p l e R (s.setVm vm0) m args below meth c T0 locs kc ks) (hx : p.tables.exec = Jvm.exec) (hZs : Z.Warmed39 s.vm) (hZ : Z.Warmed39 (s.setVm vm0).vm) (hS0 : s.Since vm0 k0) (hk0 : k0 ≤ hB.size) (wm0 : own_wm Z vm0) (hw : own_HW a0 Z) (hby : c.code = bc17) (hml : c.maxLocals = 9) (howns : s.vm.findClass ks0 = some m.cls) (hown : (s.setVm vm0).vm.findClass ks0 = some m.cls) (hnm : meth.name = "<init>") (hret : meth.sig.returnType = none) (hlk : meth.locks = false) (e0 : T0.heap = hB) (N0 : Fr n0 locs) (O0 : Old Z n0 hB) (PA0 : Exa Z hB a ks0) (PA1 : Fld Z hB a ks0 "name" ks13 .null) (PA2 : Fld Z hB a ks0 "kind" ks5 .null) (PA3 : Fld Z hB a ks0 ks23 "Z" (.int (0 : Int32))) (PA4 : Fld Z hB a ks0 ks21 ks13 .null) (PA5 : Fld Z hB a ks0 "choices" ks16 .null) (PA6 : Fld Z hB a ks0 ks22 "Z" (.int (0 : Int32))) (PA7 : Fld Z hB a ks0 "role" ks7 .null) (PA8 : Fld Z hB a ks0 "header" ks15 .null) (fa : n0 ≤ a) (hrq : own_B rq) (hwn : own_B wn) (hkc : kc ≤ R.cells) (hks : ks ≤ R.slots) (KP : ∀ (h : Heap) (L : List Loc) (vm : Vm), Keep hB h [a] → Exa Z h a ks0 → Fld Z h a ks0 "name" ks13 (.ref nm) → Fld Z h a ks0 "kind" ks5 (.ref kd) → Fld Z h a ks0 ks23 "Z" (.int rq) → Fld Z h a ks0 ks21 ks13 (.ref ds) → Fld Z h a ks0 "choices" ks16 (.ref ch) → Fld Z h a ks0 ks22 "Z" (.int wn) → Fld Z h a ks0 "role" ks7 (.ref ro) → Fld Z h a ks0 "header" ks15 (.ref ho) → Fr n0 L → own_wm Z vm → P none h L vm) :
    own_V p e below s R.cells R.slots (P) T0 (mkF m 135 #[rv a, rv nm, rv kd, iv rq, rv ds, rv ch, iv wn, rv ro, rv ho] []) := by
  refine own_stV (T' := T0) (g' := (mkF m 136 #[rv a, rv nm, rv kd, iv rq, rv ds, rv ch, iv wn, rv ro, rv ho] [(.ref a)])) (fun _ k_ => XS.aloadN X0.here hx rfl (hb hby d17_135) rfl rfl  k_) ?_
  refine own_spV (q := 137) (S' := [(.ref nm), (.ref a)]) (fun _ k_ => XS.aloadN X0.here hx rfl (hb hby d17_136) rfl rfl  k_) ?_
  refine own_kput own_ckV X0 hx hZ hown (host := "") (Or.inl (wd hw 169 rfl)) Via.refl e0 PA1 PA0 (Or.inr ⟨(wd hw 170 rfl), rfl, hnm⟩) (wd hw 100 rfl) (ty := (.object ks10)) (by decide) rfl rfl (hb hby d17_137) (q := 140) rfl fun T1 h1 X1 e1 W1 => ?_
  have Fw1 : Fld Z h1 a ks0 "name" ks13 (.ref nm) := Fld.same W1 PA1
  have N1 := Fr.snoc X1 N0 fa
  refine own_spV (q := 141) (S' := [(.ref a)]) (fun _ k_ => XS.aloadN X1.here hx rfl (hb hby d17_140) rfl rfl  k_) ?_
  refine own_spV (q := 142) (S' := [(.ref kd), (.ref a)]) (fun _ k_ => XS.aloadN X1.here hx rfl (hb hby d17_141) rfl rfl  k_) ?_
  have f2 := PA0.wr W1
  have f3 := PA2.other W1 (Or.inr (slot_ne (Or.inr (wd hw 172 rfl)) (Or.inr (wd hw 170 rfl)) (by decide) (t := (.object ks9)) (t' := (.object ks10)) (by decide) (by decide)))
  refine own_kput own_ckV X1 hx hZ hown (host := "") (Or.inl (wd hw 171 rfl)) Via.refl e1 f3 f2 (Or.inr ⟨(wd hw 172 rfl), rfl, hnm⟩) (wd hw 100 rfl) (ty := (.object ks9)) (by decide) rfl rfl (hb hby d17_142) (q := 145) rfl fun T4 h4 X4 e4 W4 => ?_
  have Fw4 : Fld Z h4 a ks0 "kind" ks5 (.ref kd) := Fld.same W4 f3
  have N4 := Fr.snoc X4 N1 fa
  refine own_spV (q := 146) (S' := [(.ref a)]) (fun _ k_ => XS.aloadN X4.here hx rfl (hb hby d17_145) rfl rfl  k_) ?_
  refine own_spV (q := 147) (S' := [(.int rq), (.ref a)]) (fun _ k_ => XS.iloadN X4.here hx rfl (hb hby d17_146) rfl  k_) ?_
  have f5 := f2.wr W4
  have f6 := PA3.other W1 (Or.inr (slot_ne (Or.inr (wd hw 174 rfl)) (Or.inr (wd hw 170 rfl)) (by decide) (t := .boolean) (t' := (.object ks10)) (by decide) (by decide)))
  have f7 := f6.other W4 (Or.inr (slot_ne (Or.inr (wd hw 174 rfl)) (Or.inr (wd hw 172 rfl)) (by decide) (t := .boolean) (t' := (.object ks9)) (by decide) (by decide)))
  obtain ⟨T8, h8, X8, e8, W8, st8⟩ := putFN X4 hx hZ hown (wd hw 173 rfl) Via.refl e4 f7 f5 (Or.inr ⟨(wd hw 174 rfl), rfl, hnm⟩) (wd hw 100 rfl) (ty := .boolean) (v' := (.int rq)) (by decide) (own_bz hrq) (own_bf hrq) (g := (mkF m 147 #[rv a, rv nm, rv kd, iv rq, rv ds, rv ch, iv wn, rv ro, rv ho] [(.int rq), (.ref a)])) rfl rfl (hb hby d17_147)
  have Fw8 : Fld Z h8 a ks0 ks23 "Z" (.int rq) := Fld.same W8 f7
  have N8 := Fr.snoc X8 N4 fa
  refine own_spV (q := 150) (S' := []) st8 ?_
  clear st8
  refine own_spV (q := 151) (S' := [(.ref a)]) (fun _ k_ => XS.aloadN X8.here hx rfl (hb hby d17_150) rfl rfl  k_) ?_
  refine own_spV (q := 153) (S' := [(.ref ds), (.ref a)]) (fun _ k_ => XS.aload X8.here hx rfl (hb hby d17_151) rfl rfl  k_) ?_
  have f9 := f5.wr W8
  have f10 := PA4.other W1 (Or.inr (slot_ne (Or.inr (wd hw 176 rfl)) (Or.inr (wd hw 170 rfl)) (by decide) (t := (.object ks10)) (t' := (.object ks10)) (by decide) (by decide)))
  have f11 := f10.other W4 (Or.inr (slot_ne (Or.inr (wd hw 176 rfl)) (Or.inr (wd hw 172 rfl)) (by decide) (t := (.object ks10)) (t' := (.object ks9)) (by decide) (by decide)))
  have f12 := f11.other W8 (Or.inr (slot_ne (Or.inr (wd hw 176 rfl)) (Or.inr (wd hw 174 rfl)) (by decide) (t := (.object ks10)) (t' := .boolean) (by decide) (by decide)))
  refine own_kput own_ckV X8 hx hZ hown (host := "") (Or.inl (wd hw 175 rfl)) Via.refl e8 f12 f9 (Or.inr ⟨(wd hw 176 rfl), rfl, hnm⟩) (wd hw 100 rfl) (ty := (.object ks10)) (by decide) rfl rfl (hb hby d17_153) (q := 156) rfl fun T13 h13 X13 e13 W13 => ?_
  have Fw13 : Fld Z h13 a ks0 ks21 ks13 (.ref ds) := Fld.same W13 f12
  have N13 := Fr.snoc X13 N8 fa
  refine own_spV (q := 157) (S' := [(.ref a)]) (fun _ k_ => XS.aloadN X13.here hx rfl (hb hby d17_156) rfl rfl  k_) ?_
  refine own_spV (q := 159) (S' := [(.ref ch), (.ref a)]) (fun _ k_ => XS.aload X13.here hx rfl (hb hby d17_157) rfl rfl  k_) ?_
  have f14 := f9.wr W13
  have f15 := PA5.other W1 (Or.inr (slot_ne (Or.inr (wd hw 178 rfl)) (Or.inr (wd hw 170 rfl)) (by decide) (t := (.object ks18)) (t' := (.object ks10)) (by decide) (by decide)))
  have f16 := f15.other W4 (Or.inr (slot_ne (Or.inr (wd hw 178 rfl)) (Or.inr (wd hw 172 rfl)) (by decide) (t := (.object ks18)) (t' := (.object ks9)) (by decide) (by decide)))
  have f17 := f16.other W8 (Or.inr (slot_ne (Or.inr (wd hw 178 rfl)) (Or.inr (wd hw 174 rfl)) (by decide) (t := (.object ks18)) (t' := .boolean) (by decide) (by decide)))
  have f18 := f17.other W13 (Or.inr (slot_ne (Or.inr (wd hw 178 rfl)) (Or.inr (wd hw 176 rfl)) (by decide) (t := (.object ks18)) (t' := (.object ks10)) (by decide) (by decide)))
  refine own_kput own_ckV X13 hx hZ hown (host := "") (Or.inl (wd hw 177 rfl)) Via.refl e13 f18 f14 (Or.inr ⟨(wd hw 178 rfl), rfl, hnm⟩) (wd hw 100 rfl) (ty := (.object ks18)) (by decide) rfl rfl (hb hby d17_159) (q := 162) rfl fun T19 h19 X19 e19 W19 => ?_
  have Fw19 : Fld Z h19 a ks0 "choices" ks16 (.ref ch) := Fld.same W19 f18
  have N19 := Fr.snoc X19 N13 fa
  refine own_spV (q := 163) (S' := [(.ref a)]) (fun _ k_ => XS.aloadN X19.here hx rfl (hb hby d17_162) rfl rfl  k_) ?_
  refine own_spV (q := 165) (S' := [(.int wn), (.ref a)]) (fun _ k_ => XS.iload X19.here hx rfl (hb hby d17_163) rfl  k_) ?_
  have f20 := f14.wr W19
  have f21 := PA6.other W1 (Or.inr (slot_ne (Or.inr (wd hw 180 rfl)) (Or.inr (wd hw 170 rfl)) (by decide) (t := .boolean) (t' := (.object ks10)) (by decide) (by decide)))
  have f22 := f21.other W4 (Or.inr (slot_ne (Or.inr (wd hw 180 rfl)) (Or.inr (wd hw 172 rfl)) (by decide) (t := .boolean) (t' := (.object ks9)) (by decide) (by decide)))
  have f23 := f22.other W8 (Or.inr (slot_ne (Or.inr (wd hw 180 rfl)) (Or.inr (wd hw 174 rfl)) (by decide) (t := .boolean) (t' := .boolean) (by decide) (by decide)))
  have f24 := f23.other W13 (Or.inr (slot_ne (Or.inr (wd hw 180 rfl)) (Or.inr (wd hw 176 rfl)) (by decide) (t := .boolean) (t' := (.object ks10)) (by decide) (by decide)))
  have f25 := f24.other W19 (Or.inr (slot_ne (Or.inr (wd hw 180 rfl)) (Or.inr (wd hw 178 rfl)) (by decide) (t := .boolean) (t' := (.object ks18)) (by decide) (by decide)))
  obtain ⟨T26, h26, X26, e26, W26, st26⟩ := putFN X19 hx hZ hown (wd hw 179 rfl) Via.refl e19 f25 f20 (Or.inr ⟨(wd hw 180 rfl), rfl, hnm⟩) (wd hw 100 rfl) (ty := .boolean) (v' := (.int wn)) (by decide) (own_bz hwn) (own_bf hwn) (g := (mkF m 165 #[rv a, rv nm, rv kd, iv rq, rv ds, rv ch, iv wn, rv ro, rv ho] [(.int wn), (.ref a)])) rfl rfl (hb hby d17_165)
  have Fw26 : Fld Z h26 a ks0 ks22 "Z" (.int wn) := Fld.same W26 f25
  have N26 := Fr.snoc X26 N19 fa
  refine own_spV (q := 168) (S' := []) st26 ?_
  clear st26
  refine own_spV (q := 169) (S' := [(.ref a)]) (fun _ k_ => XS.aloadN X26.here hx rfl (hb hby d17_168) rfl rfl  k_) ?_
  refine own_spV (q := 171) (S' := [(.ref ro), (.ref a)]) (fun _ k_ => XS.aload X26.here hx rfl (hb hby d17_169) rfl rfl  k_) ?_
  have f27 := f20.wr W26
  have f28 := PA7.other W1 (Or.inr (slot_ne (Or.inr (wd hw 182 rfl)) (Or.inr (wd hw 170 rfl)) (by decide) (t := (.object ks1)) (t' := (.object ks10)) (by decide) (by decide)))
  have f29 := f28.other W4 (Or.inr (slot_ne (Or.inr (wd hw 182 rfl)) (Or.inr (wd hw 172 rfl)) (by decide) (t := (.object ks1)) (t' := (.object ks9)) (by decide) (by decide)))
  have f30 := f29.other W8 (Or.inr (slot_ne (Or.inr (wd hw 182 rfl)) (Or.inr (wd hw 174 rfl)) (by decide) (t := (.object ks1)) (t' := .boolean) (by decide) (by decide)))
  have f31 := f30.other W13 (Or.inr (slot_ne (Or.inr (wd hw 182 rfl)) (Or.inr (wd hw 176 rfl)) (by decide) (t := (.object ks1)) (t' := (.object ks10)) (by decide) (by decide)))
  have f32 := f31.other W19 (Or.inr (slot_ne (Or.inr (wd hw 182 rfl)) (Or.inr (wd hw 178 rfl)) (by decide) (t := (.object ks1)) (t' := (.object ks18)) (by decide) (by decide)))
  have f33 := f32.other W26 (Or.inr (slot_ne (Or.inr (wd hw 182 rfl)) (Or.inr (wd hw 180 rfl)) (by decide) (t := (.object ks1)) (t' := .boolean) (by decide) (by decide)))
  refine own_kput own_ckV X26 hx hZ hown (host := "") (Or.inl (wd hw 181 rfl)) Via.refl e26 f33 f27 (Or.inr ⟨(wd hw 182 rfl), rfl, hnm⟩) (wd hw 100 rfl) (ty := (.object ks1)) (by decide) rfl rfl (hb hby d17_171) (q := 174) rfl fun T34 h34 X34 e34 W34 => ?_
  have Fw34 : Fld Z h34 a ks0 "role" ks7 (.ref ro) := Fld.same W34 f33
  have N34 := Fr.snoc X34 N26 fa
  refine own_spV (q := 175) (S' := [(.ref a)]) (fun _ k_ => XS.aloadN X34.here hx rfl (hb hby d17_174) rfl rfl  k_) ?_
  refine own_spV (q := 177) (S' := [(.ref ho), (.ref a)]) (fun _ k_ => XS.aload X34.here hx rfl (hb hby d17_175) rfl rfl  k_) ?_
  have f35 := f27.wr W34
  have f36 := PA8.other W1 (Or.inr (slot_ne (Or.inr (wd hw 184 rfl)) (Or.inr (wd hw 170 rfl)) (by decide) (t := (.object ks14)) (t' := (.object ks10)) (by decide) (by decide)))
  have f37 := f36.other W4 (Or.inr (slot_ne (Or.inr (wd hw 184 rfl)) (Or.inr (wd hw 172 rfl)) (by decide) (t := (.object ks14)) (t' := (.object ks9)) (by decide) (by decide)))
  have f38 := f37.other W8 (Or.inr (slot_ne (Or.inr (wd hw 184 rfl)) (Or.inr (wd hw 174 rfl)) (by decide) (t := (.object ks14)) (t' := .boolean) (by decide) (by decide)))
  have f39 := f38.other W13 (Or.inr (slot_ne (Or.inr (wd hw 184 rfl)) (Or.inr (wd hw 176 rfl)) (by decide) (t := (.object ks14)) (t' := (.object ks10)) (by decide) (by decide)))
  have f40 := f39.other W19 (Or.inr (slot_ne (Or.inr (wd hw 184 rfl)) (Or.inr (wd hw 178 rfl)) (by decide) (t := (.object ks14)) (t' := (.object ks18)) (by decide) (by decide)))
  have f41 := f40.other W26 (Or.inr (slot_ne (Or.inr (wd hw 184 rfl)) (Or.inr (wd hw 180 rfl)) (by decide) (t := (.object ks14)) (t' := .boolean) (by decide) (by decide)))
  have f42 := f41.other W34 (Or.inr (slot_ne (Or.inr (wd hw 184 rfl)) (Or.inr (wd hw 182 rfl)) (by decide) (t := (.object ks14)) (t' := (.object ks1)) (by decide) (by decide)))
  refine own_kput own_ckV X34 hx hZ hown (host := "") (Or.inl (wd hw 183 rfl)) Via.refl e34 f42 f35 (Or.inr ⟨(wd hw 184 rfl), rfl, hnm⟩) (wd hw 100 rfl) (ty := (.object ks14)) (by decide) rfl rfl (hb hby d17_177) (q := 180) rfl fun T43 h43 X43 e43 W43 => ?_
  have Fw43 : Fld Z h43 a ks0 "header" ks15 (.ref ho) := Fld.same W43 f42
  have N43 := Fr.snoc X43 N34 fa
  have f44 := (Keep.refl hB [a]).wr W1 (Or.inl (List.mem_of_getElem? (i := 0) rfl))
  have f45 := f44.wr W4 (Or.inl (List.mem_of_getElem? (i := 0) rfl))
  have f46 := f45.wr W8 (Or.inl (List.mem_of_getElem? (i := 0) rfl))
  have f47 := f46.wr W13 (Or.inl (List.mem_of_getElem? (i := 0) rfl))
  have f48 := f47.wr W19 (Or.inl (List.mem_of_getElem? (i := 0) rfl))
  have f49 := f48.wr W26 (Or.inl (List.mem_of_getElem? (i := 0) rfl))
  have f50 := f49.wr W34 (Or.inl (List.mem_of_getElem? (i := 0) rfl))
  have f51 := f50.wr W43 (Or.inl (List.mem_of_getElem? (i := 0) rfl))
  have f52 := f35.wr W43
  have f53 := Fw1.other W4 (Or.inr (slot_ne (Or.inr (wd hw 170 rfl)) (Or.inr (wd hw 172 rfl)) (by decide) (t := (.object ks10)) (t' := (.object ks9)) (by decide) (by decide)))
  have f54 := f53.other W8 (Or.inr (slot_ne (Or.inr (wd hw 170 rfl)) (Or.inr (wd hw 174 rfl)) (by decide) (t := (.object ks10)) (t' := .boolean) (by decide) (by decide)))
  have f55 := f54.other W13 (Or.inr (slot_ne (Or.inr (wd hw 170 rfl)) (Or.inr (wd hw 176 rfl)) (by decide) (t := (.object ks10)) (t' := (.object ks10)) (by decide) (by decide)))
  have f56 := f55.other W19 (Or.inr (slot_ne (Or.inr (wd hw 170 rfl)) (Or.inr (wd hw 178 rfl)) (by decide) (t := (.object ks10)) (t' := (.object ks18)) (by decide) (by decide)))
  have f57 := f56.other W26 (Or.inr (slot_ne (Or.inr (wd hw 170 rfl)) (Or.inr (wd hw 180 rfl)) (by decide) (t := (.object ks10)) (t' := .boolean) (by decide) (by decide)))
  have f58 := f57.other W34 (Or.inr (slot_ne (Or.inr (wd hw 170 rfl)) (Or.inr (wd hw 182 rfl)) (by decide) (t := (.object ks10)) (t' := (.object ks1)) (by decide) (by decide)))
  have f59 := f58.other W43 (Or.inr (slot_ne (Or.inr (wd hw 170 rfl)) (Or.inr (wd hw 184 rfl)) (by decide) (t := (.object ks10)) (t' := (.object ks14)) (by decide) (by decide)))
  have f60 := Fw4.other W8 (Or.inr (slot_ne (Or.inr (wd hw 172 rfl)) (Or.inr (wd hw 174 rfl)) (by decide) (t := (.object ks9)) (t' := .boolean) (by decide) (by decide)))
  have f61 := f60.other W13 (Or.inr (slot_ne (Or.inr (wd hw 172 rfl)) (Or.inr (wd hw 176 rfl)) (by decide) (t := (.object ks9)) (t' := (.object ks10)) (by decide) (by decide)))
  have f62 := f61.other W19 (Or.inr (slot_ne (Or.inr (wd hw 172 rfl)) (Or.inr (wd hw 178 rfl)) (by decide) (t := (.object ks9)) (t' := (.object ks18)) (by decide) (by decide)))
  have f63 := f62.other W26 (Or.inr (slot_ne (Or.inr (wd hw 172 rfl)) (Or.inr (wd hw 180 rfl)) (by decide) (t := (.object ks9)) (t' := .boolean) (by decide) (by decide)))
  have f64 := f63.other W34 (Or.inr (slot_ne (Or.inr (wd hw 172 rfl)) (Or.inr (wd hw 182 rfl)) (by decide) (t := (.object ks9)) (t' := (.object ks1)) (by decide) (by decide)))
  have f65 := f64.other W43 (Or.inr (slot_ne (Or.inr (wd hw 172 rfl)) (Or.inr (wd hw 184 rfl)) (by decide) (t := (.object ks9)) (t' := (.object ks14)) (by decide) (by decide)))
  have f66 := Fw8.other W13 (Or.inr (slot_ne (Or.inr (wd hw 174 rfl)) (Or.inr (wd hw 176 rfl)) (by decide) (t := .boolean) (t' := (.object ks10)) (by decide) (by decide)))
  have f67 := f66.other W19 (Or.inr (slot_ne (Or.inr (wd hw 174 rfl)) (Or.inr (wd hw 178 rfl)) (by decide) (t := .boolean) (t' := (.object ks18)) (by decide) (by decide)))
  have f68 := f67.other W26 (Or.inr (slot_ne (Or.inr (wd hw 174 rfl)) (Or.inr (wd hw 180 rfl)) (by decide) (t := .boolean) (t' := .boolean) (by decide) (by decide)))
  have f69 := f68.other W34 (Or.inr (slot_ne (Or.inr (wd hw 174 rfl)) (Or.inr (wd hw 182 rfl)) (by decide) (t := .boolean) (t' := (.object ks1)) (by decide) (by decide)))
  have f70 := f69.other W43 (Or.inr (slot_ne (Or.inr (wd hw 174 rfl)) (Or.inr (wd hw 184 rfl)) (by decide) (t := .boolean) (t' := (.object ks14)) (by decide) (by decide)))
  have f71 := Fw13.other W19 (Or.inr (slot_ne (Or.inr (wd hw 176 rfl)) (Or.inr (wd hw 178 rfl)) (by decide) (t := (.object ks10)) (t' := (.object ks18)) (by decide) (by decide)))
  have f72 := f71.other W26 (Or.inr (slot_ne (Or.inr (wd hw 176 rfl)) (Or.inr (wd hw 180 rfl)) (by decide) (t := (.object ks10)) (t' := .boolean) (by decide) (by decide)))
  have f73 := f72.other W34 (Or.inr (slot_ne (Or.inr (wd hw 176 rfl)) (Or.inr (wd hw 182 rfl)) (by decide) (t := (.object ks10)) (t' := (.object ks1)) (by decide) (by decide)))
  have f74 := f73.other W43 (Or.inr (slot_ne (Or.inr (wd hw 176 rfl)) (Or.inr (wd hw 184 rfl)) (by decide) (t := (.object ks10)) (t' := (.object ks14)) (by decide) (by decide)))
  have f75 := Fw19.other W26 (Or.inr (slot_ne (Or.inr (wd hw 178 rfl)) (Or.inr (wd hw 180 rfl)) (by decide) (t := (.object ks18)) (t' := .boolean) (by decide) (by decide)))
  have f76 := f75.other W34 (Or.inr (slot_ne (Or.inr (wd hw 178 rfl)) (Or.inr (wd hw 182 rfl)) (by decide) (t := (.object ks18)) (t' := (.object ks1)) (by decide) (by decide)))
  have f77 := f76.other W43 (Or.inr (slot_ne (Or.inr (wd hw 178 rfl)) (Or.inr (wd hw 184 rfl)) (by decide) (t := (.object ks18)) (t' := (.object ks14)) (by decide) (by decide)))
  have f78 := Fw26.other W34 (Or.inr (slot_ne (Or.inr (wd hw 180 rfl)) (Or.inr (wd hw 182 rfl)) (by decide) (t := .boolean) (t' := (.object ks1)) (by decide) (by decide)))
  have f79 := f78.other W43 (Or.inr (slot_ne (Or.inr (wd hw 180 rfl)) (Or.inr (wd hw 184 rfl)) (by decide) (t := .boolean) (t' := (.object ks14)) (by decide) (by decide)))
  have f80 := Fw34.other W43 (Or.inr (slot_ne (Or.inr (wd hw 182 rfl)) (Or.inr (wd hw 184 rfl)) (by decide) (t := (.object ks1)) (t' := (.object ks14)) (by decide) (by decide)))
  exact own_retVV X43 hS0 (by rw [e43]; exact (Nat.le_trans (Nat.le_trans (Nat.le_trans (Nat.le_trans (Nat.le_trans (Nat.le_trans (Nat.le_trans (Nat.le_trans hk0 (Nat.le_of_eq (Wr.size W1).symm)) (Nat.le_of_eq (Wr.size W4).symm)) (Nat.le_of_eq (Wr.size W8).symm)) (Nat.le_of_eq (Wr.size W13).symm)) (Nat.le_of_eq (Wr.size W19).symm)) (Nat.le_of_eq (Wr.size W26).symm)) (Nat.le_of_eq (Wr.size W34).symm)) (Nat.le_of_eq (Wr.size W43).symm))) hx hret hlk (hb hby d17_180) hkc hks (by rw [e43]; exact KP _ _ _ f51 f52 f59 f65 f70 f74 f77 f79 f80 Fw43 N43 (own_wmS wm0 (show (s.setVm vm0).Warmed39 _ from X43.warmed.wide)))
theorem d17_80 : own_D bc17 80 (.iload 6) 2 := by decide +kernel
theorem d17_82 : own_D bc17 82 (.ifCond .eq 24) 3 := by decide +kernel
theorem d17_85 : own_D bc17 85 (.aload_n 2) 1 := by decide +kernel
theorem d17_86 : own_D bc17 86 (.getstatic 33) 3 := by decide +kernel
theorem d17_89 : own_D bc17 89 (.if_acmp .eq 17) 3 := by decide +kernel
theorem d17_106 : own_D bc17 106 (.aload 8) 2 := by decide +kernel
theorem d17_108 : own_D bc17 108 (.invokevirtual 49) 3 := by decide +kernel
theorem d17_111 : own_D bc17 111 (.ifCond .eq 24) 3 := by decide +kernel
theorem d17_114 : own_D bc17 114 (.aload_n 2) 1 := by decide +kernel
theorem d17_115 : own_D bc17 115 (.getstatic 33) 3 := by decide +kernel
theorem d17_118 : own_D bc17 118 (.if_acmp .eq 17) 3 := by decide +kernel
theorem seg_p80c (h0 : Heap) (hB : Heap) (n0 : Nat) (a : Addr) (ch : Addr) (nm : Addr) (kd : Addr) (rq : Int32) (ds : Addr) (wn : Int32) (ro : Addr) (ho : Addr) (hv : Value) (w_TEXT : Addr) (P : Option Value → Heap → List Loc → Vm → Prop)
    (X0 : Stand p l e (rm4 9 10 296 160) (s.setVm vm0) m args below meth c T0 locs 10 296) (hx : p.tables.exec = Jvm.exec) (hZs : Z.Warmed39 s.vm) (hZ : Z.Warmed39 (s.setVm vm0).vm) (hS0 : s.Since vm0 k0) (hk0 : k0 ≤ hB.size) (wm0 : own_wm Z vm0) (hw : own_HW a0 Z) (hby : c.code = bc17) (hml : c.maxLocals = 9) (howns : s.vm.findClass ks0 = some m.cls) (hown : (s.setVm vm0).vm.findClass ks0 = some m.cls) (hnm : meth.name = "<init>") (hret : meth.sig.returnType = none) (hlk : meth.locks = false) (e0 : T0.heap = hB) (N0 : Fr n0 locs) (O0 : Old Z n0 hB) (PA0 : Exa Z hB a ks0) (PA1 : Fld Z hB a ks0 "name" ks13 .null) (PA2 : Fld Z hB a ks0 "kind" ks5 .null) (PA3 : Fld Z hB a ks0 ks23 "Z" (.int (0 : Int32))) (PA4 : Fld Z hB a ks0 ks21 ks13 .null) (PA5 : Fld Z hB a ks0 "choices" ks16 .null) (PA6 : Fld Z hB a ks0 ks22 "Z" (.int (0 : Int32))) (PA7 : Fld Z hB a ks0 "role" ks7 .null) (PA8 : Fld Z hB a ks0 "header" ks15 .null) (fa : n0 ≤ a) (E_ho : Exa Z hB ho ks14) (F_ho : Fld Z hB ho ks14 "value" ks12 hv) (hhv : hv.isRef = true) (hrq : own_B rq) (hwn : own_B wn) (hT1 : ¬ wn = (0 : Int32) → kd = w_TEXT) (hT2 : ¬ own_pv hv = (0 : Int32) → kd = w_TEXT) (S_TEXT : Sta Z Z.heap ks9 "TEXT" ks5 (.ref w_TEXT)) (KP : ∀ (h : Heap) (L : List Loc) (vm : Vm), Keep hB h [a] → Exa Z h a ks0 → Fld Z h a ks0 "name" ks13 (.ref nm) → Fld Z h a ks0 "kind" ks5 (.ref kd) → Fld Z h a ks0 ks23 "Z" (.int rq) → Fld Z h a ks0 ks21 ks13 (.ref ds) → Fld Z h a ks0 "choices" ks16 (.ref ch) → Fld Z h a ks0 ks22 "Z" (.int wn) → Fld Z h a ks0 "role" ks7 (.ref ro) → Fld Z h a ks0 "header" ks15 (.ref ho) → Fr n0 L → own_wm Z vm → P none h L vm) :
    own_V p e below s (rm4 9 10 296 160).cells (rm4 9 10 296 160).slots (P) T0 (mkF m 80 #[rv a, rv nm, rv kd, iv rq, rv ds, rv ch, iv wn, rv ro, rv ho] []) := by
  refine own_stV (T' := T0) (g' := (mkF m 82 #[rv a, rv nm, rv kd, iv rq, rv ds, rv ch, iv wn, rv ro, rv ho] [(.int wn)])) (fun _ k_ => XS.iload X0.here hx rfl (hb hby d17_80) rfl  k_) ?_
  by_cases hc1 : wn = (0 : Int32)
  · refine own_spV (q := 106) (S' := []) (fun _ k_ => XS.ifYes X0.here hx rfl (pc0 := 82) (pc' := 106) rfl (hb hby d17_82) rfl ((if0 _ _).trans (teq hc1).1) (by decide) (by decide) k_) ?_
    refine own_spV (q := 108) (S' := [(.ref ho)]) (fun _ k_ => XS.aload X0.here hx rfl (hb hby d17_106) rfl rfl  k_) ?_
    refine own_kcV own_ckV X0 hx hZ hown hml (y := own_m37) (wd hw 162 rfl) (wd hw 163 rfl) (wd hw 165 rfl) (wd hw 164 rfl) (wd hw 110 rfl) (wd hw 166 rfl) (by decide) E_ho (rm_ispr l Z a0 hw [] ho hv hB n0 O0 F_ho hhv) (by decide) (by decide) (W := 0) (Nat.le_of_eq rfl) (argsL := []) (rest := []) (lenOf pd___Z rfl) rfl rfl (hb hby d17_108) rfl e0 (by decide) (by decide) (c' := 10) (s' := 296) rfl rfl (q := 111) rfl fun _ T2 L2 X2 hQ2 => ?_
    obtain ⟨rfl, Nq2, eq2⟩ := hQ2
    have N2 := Fr.app N0 Nq2
    show own_V p e below s _ _ _ T2 (mkF m 111 _ [(.int (own_pv hv))])
    by_cases hc3 : (own_pv hv) = (0 : Int32)
    · refine own_spV (q := 135) (S' := []) (fun _ k_ => XS.ifYes X2.here hx rfl (pc0 := 111) (pc' := 135) rfl (hb hby d17_111) rfl ((if0 _ _).trans (teq hc3).1) (by decide) (by decide) k_) ?_
      exact seg_p135 h0 hB n0 a ch nm kd rq ds wn ro ho hv w_TEXT P _ _ _ X2 hx hZs hZ hS0 hk0 wm0 hw hby hml howns hown hnm hret hlk eq2 N2 O0 PA0 PA1 PA2 PA3 PA4 PA5 PA6 PA7 PA8 fa hrq hwn (by decide) (by decide) KP
    · refine own_spV (q := 114) (S' := []) (fun _ k_ => XS.ifNo X2.here hx rfl (hb hby d17_111) rfl ((if0 _ _).trans (feq hc3).1) k_) ?_
      refine own_spV (q := 115) (S' := [(.ref kd)]) (fun _ k_ => XS.aloadN X2.here hx rfl (hb hby d17_114) rfl rfl  k_) ?_
      refine own_kgs own_ckV X2 hx hZ hown (host := "") (Or.inl (wd hw 358 rfl)) Via.refl eq2 (S_TEXT.ext O0.2) (hb hby d17_115) (q := 118) rfl fun T4 X4 e4 => ?_
      refine own_spV (q := 135) (S' := []) (fun _ k_ => Jvm.RoadKit.acmp (g := (mkF m 118 #[rv a, rv nm, rv kd, iv rq, rv ds, rv ch, iv wn, rv ro, rv ho] [(.ref w_TEXT), (.ref kd)])) X4 hx rfl rfl rfl (pc0 := 118) (pc' := 135) (same := true) rfl (hb hby d17_118) rfl (decide_eq_true (congrArg Value.ref ((hT2 hc3) : kd = w_TEXT))) (by decide) (by decide) k_) ?_
      exact seg_p135 h0 hB n0 a ch nm kd rq ds wn ro ho hv w_TEXT P _ _ _ X4 hx hZs hZ hS0 hk0 wm0 hw hby hml howns hown hnm hret hlk e4 N2 O0 PA0 PA1 PA2 PA3 PA4 PA5 PA6 PA7 PA8 fa hrq hwn (by decide) (by decide) KP
  · refine own_spV (q := 85) (S' := []) (fun _ k_ => XS.ifNo X0.here hx rfl (hb hby d17_82) rfl ((if0 _ _).trans (feq hc1).1) k_) ?_
    refine own_spV (q := 86) (S' := [(.ref kd)]) (fun _ k_ => XS.aloadN X0.here hx rfl (hb hby d17_85) rfl rfl  k_) ?_
    refine own_kgs own_ckV X0 hx hZ hown (host := "") (Or.inl (wd hw 358 rfl)) Via.refl e0 (S_TEXT.ext O0.2) (hb hby d17_86) (q := 89) rfl fun T5 X5 e5 => ?_
    refine own_spV (q := 106) (S' := []) (fun _ k_ => Jvm.RoadKit.acmp (g := (mkF m 89 #[rv a, rv nm, rv kd, iv rq, rv ds, rv ch, iv wn, rv ro, rv ho] [(.ref w_TEXT), (.ref kd)])) X5 hx rfl rfl rfl (pc0 := 89) (pc' := 106) (same := true) rfl (hb hby d17_89) rfl (decide_eq_true (congrArg Value.ref ((hT1 hc1) : kd = w_TEXT))) (by decide) (by decide) k_) ?_
    refine own_spV (q := 108) (S' := [(.ref ho)]) (fun _ k_ => XS.aload X5.here hx rfl (hb hby d17_106) rfl rfl  k_) ?_
    refine own_kcV own_ckV X5 hx hZ hown hml (y := own_m37) (wd hw 162 rfl) (wd hw 163 rfl) (wd hw 165 rfl) (wd hw 164 rfl) (wd hw 110 rfl) (wd hw 166 rfl) (by decide) E_ho (rm_ispr l Z a0 hw [] ho hv hB n0 O0 F_ho hhv) (by decide) (by decide) (W := 0) (Nat.le_of_eq rfl) (argsL := []) (rest := []) (lenOf pd___Z rfl) rfl rfl (hb hby d17_108) rfl e5 (by decide) (by decide) (c' := 10) (s' := 296) rfl rfl (q := 111) rfl fun _ T6 L6 X6 hQ6 => ?_
    obtain ⟨rfl, Nq6, eq6⟩ := hQ6
    have N6 := Fr.app N0 Nq6
    show own_V p e below s _ _ _ T6 (mkF m 111 _ [(.int (own_pv hv))])
    by_cases hc7 : (own_pv hv) = (0 : Int32)
    · refine own_spV (q := 135) (S' := []) (fun _ k_ => XS.ifYes X6.here hx rfl (pc0 := 111) (pc' := 135) rfl (hb hby d17_111) rfl ((if0 _ _).trans (teq hc7).1) (by decide) (by decide) k_) ?_
      exact seg_p135 h0 hB n0 a ch nm kd rq ds wn ro ho hv w_TEXT P _ _ _ X6 hx hZs hZ hS0 hk0 wm0 hw hby hml howns hown hnm hret hlk eq6 N6 O0 PA0 PA1 PA2 PA3 PA4 PA5 PA6 PA7 PA8 fa hrq hwn (by decide) (by decide) KP
    · refine own_spV (q := 114) (S' := []) (fun _ k_ => XS.ifNo X6.here hx rfl (hb hby d17_111) rfl ((if0 _ _).trans (feq hc7).1) k_) ?_
      refine own_spV (q := 115) (S' := [(.ref kd)]) (fun _ k_ => XS.aloadN X6.here hx rfl (hb hby d17_114) rfl rfl  k_) ?_
      refine own_kgs own_ckV X6 hx hZ hown (host := "") (Or.inl (wd hw 358 rfl)) Via.refl eq6 (S_TEXT.ext O0.2) (hb hby d17_115) (q := 118) rfl fun T8 X8 e8 => ?_
      refine own_spV (q := 135) (S' := []) (fun _ k_ => Jvm.RoadKit.acmp (g := (mkF m 118 #[rv a, rv nm, rv kd, iv rq, rv ds, rv ch, iv wn, rv ro, rv ho] [(.ref w_TEXT), (.ref kd)])) X8 hx rfl rfl rfl (pc0 := 118) (pc' := 135) (same := true) rfl (hb hby d17_118) rfl (decide_eq_true (congrArg Value.ref ((hT2 hc7) : kd = w_TEXT))) (by decide) (by decide) k_) ?_
      exact seg_p135 h0 hB n0 a ch nm kd rq ds wn ro ho hv w_TEXT P _ _ _ X8 hx hZs hZ hS0 hk0 wm0 hw hby hml howns hown hnm hret hlk e8 N6 O0 PA0 PA1 PA2 PA3 PA4 PA5 PA6 PA7 PA8 fa hrq hwn (by decide) (by decide) KP
theorem seg_p80a (h0 : Heap) (hB : Heap) (n0 : Nat) (a : Addr) (ch : Addr) (nm : Addr) (kd : Addr) (rq : Int32) (ds : Addr) (wn : Int32) (ro : Addr) (ho : Addr) (hv : Value) (w_TEXT : Addr) (P : Option Value → Heap → List Loc → Vm → Prop)
    (X0 : Stand p l e (rm4 9 13 310 160) (s.setVm vm0) m args below meth c T0 locs 13 310) (hx : p.tables.exec = Jvm.exec) (hZs : Z.Warmed39 s.vm) (hZ : Z.Warmed39 (s.setVm vm0).vm) (hS0 : s.Since vm0 k0) (hk0 : k0 ≤ hB.size) (wm0 : own_wm Z vm0) (hw : own_HW a0 Z) (hby : c.code = bc17) (hml : c.maxLocals = 9) (howns : s.vm.findClass ks0 = some m.cls) (hown : (s.setVm vm0).vm.findClass ks0 = some m.cls) (hnm : meth.name = "<init>") (hret : meth.sig.returnType = none) (hlk : meth.locks = false) (e0 : T0.heap = hB) (N0 : Fr n0 locs) (O0 : Old Z n0 hB) (PA0 : Exa Z hB a ks0) (PA1 : Fld Z hB a ks0 "name" ks13 .null) (PA2 : Fld Z hB a ks0 "kind" ks5 .null) (PA3 : Fld Z hB a ks0 ks23 "Z" (.int (0 : Int32))) (PA4 : Fld Z hB a ks0 ks21 ks13 .null) (PA5 : Fld Z hB a ks0 "choices" ks16 .null) (PA6 : Fld Z hB a ks0 ks22 "Z" (.int (0 : Int32))) (PA7 : Fld Z hB a ks0 "role" ks7 .null) (PA8 : Fld Z hB a ks0 "header" ks15 .null) (fa : n0 ≤ a) (E_ho : Exa Z hB ho ks14) (F_ho : Fld Z hB ho ks14 "value" ks12 hv) (hhv : hv.isRef = true) (hrq : own_B rq) (hwn : own_B wn) (hT1 : ¬ wn = (0 : Int32) → kd = w_TEXT) (hT2 : ¬ own_pv hv = (0 : Int32) → kd = w_TEXT) (S_TEXT : Sta Z Z.heap ks9 "TEXT" ks5 (.ref w_TEXT)) (KP : ∀ (h : Heap) (L : List Loc) (vm : Vm), Keep hB h [a] → Exa Z h a ks0 → Fld Z h a ks0 "name" ks13 (.ref nm) → Fld Z h a ks0 "kind" ks5 (.ref kd) → Fld Z h a ks0 ks23 "Z" (.int rq) → Fld Z h a ks0 ks21 ks13 (.ref ds) → Fld Z h a ks0 "choices" ks16 (.ref ch) → Fld Z h a ks0 ks22 "Z" (.int wn) → Fld Z h a ks0 "role" ks7 (.ref ro) → Fld Z h a ks0 "header" ks15 (.ref ho) → Fr n0 L → own_wm Z vm → P none h L vm) :
    own_V p e below s (rm4 9 13 310 160).cells (rm4 9 13 310 160).slots (P) T0 (mkF m 80 #[rv a, rv nm, rv kd, iv rq, rv ds, rv ch, iv wn, rv ro, rv ho] []) := by
  refine own_stV (T' := T0) (g' := (mkF m 82 #[rv a, rv nm, rv kd, iv rq, rv ds, rv ch, iv wn, rv ro, rv ho] [(.int wn)])) (fun _ k_ => XS.iload X0.here hx rfl (hb hby d17_80) rfl  k_) ?_
  by_cases hc1 : wn = (0 : Int32)
  · refine own_spV (q := 106) (S' := []) (fun _ k_ => XS.ifYes X0.here hx rfl (pc0 := 82) (pc' := 106) rfl (hb hby d17_82) rfl ((if0 _ _).trans (teq hc1).1) (by decide) (by decide) k_) ?_
    refine own_spV (q := 108) (S' := [(.ref ho)]) (fun _ k_ => XS.aload X0.here hx rfl (hb hby d17_106) rfl rfl  k_) ?_
    refine own_kcV own_ckV X0 hx hZ hown hml (y := own_m37) (wd hw 162 rfl) (wd hw 163 rfl) (wd hw 165 rfl) (wd hw 164 rfl) (wd hw 110 rfl) (wd hw 166 rfl) (by decide) E_ho (rm_ispr l Z a0 hw [] ho hv hB n0 O0 F_ho hhv) (by decide) (by decide) (W := 0) (Nat.le_of_eq rfl) (argsL := []) (rest := []) (lenOf pd___Z rfl) rfl rfl (hb hby d17_108) rfl e0 (by decide) (by decide) (c' := 13) (s' := 310) rfl rfl (q := 111) rfl fun _ T2 L2 X2 hQ2 => ?_
    obtain ⟨rfl, Nq2, eq2⟩ := hQ2
    have N2 := Fr.app N0 Nq2
    show own_V p e below s _ _ _ T2 (mkF m 111 _ [(.int (own_pv hv))])
    by_cases hc3 : (own_pv hv) = (0 : Int32)
    · refine own_spV (q := 135) (S' := []) (fun _ k_ => XS.ifYes X2.here hx rfl (pc0 := 111) (pc' := 135) rfl (hb hby d17_111) rfl ((if0 _ _).trans (teq hc3).1) (by decide) (by decide) k_) ?_
      exact seg_p135 h0 hB n0 a ch nm kd rq ds wn ro ho hv w_TEXT P _ _ _ X2 hx hZs hZ hS0 hk0 wm0 hw hby hml howns hown hnm hret hlk eq2 N2 O0 PA0 PA1 PA2 PA3 PA4 PA5 PA6 PA7 PA8 fa hrq hwn (by decide) (by decide) KP
    · refine own_spV (q := 114) (S' := []) (fun _ k_ => XS.ifNo X2.here hx rfl (hb hby d17_111) rfl ((if0 _ _).trans (feq hc3).1) k_) ?_
      refine own_spV (q := 115) (S' := [(.ref kd)]) (fun _ k_ => XS.aloadN X2.here hx rfl (hb hby d17_114) rfl rfl  k_) ?_
      refine own_kgs own_ckV X2 hx hZ hown (host := "") (Or.inl (wd hw 358 rfl)) Via.refl eq2 (S_TEXT.ext O0.2) (hb hby d17_115) (q := 118) rfl fun T4 X4 e4 => ?_
      refine own_spV (q := 135) (S' := []) (fun _ k_ => Jvm.RoadKit.acmp (g := (mkF m 118 #[rv a, rv nm, rv kd, iv rq, rv ds, rv ch, iv wn, rv ro, rv ho] [(.ref w_TEXT), (.ref kd)])) X4 hx rfl rfl rfl (pc0 := 118) (pc' := 135) (same := true) rfl (hb hby d17_118) rfl (decide_eq_true (congrArg Value.ref ((hT2 hc3) : kd = w_TEXT))) (by decide) (by decide) k_) ?_
      exact seg_p135 h0 hB n0 a ch nm kd rq ds wn ro ho hv w_TEXT P _ _ _ X4 hx hZs hZ hS0 hk0 wm0 hw hby hml howns hown hnm hret hlk e4 N2 O0 PA0 PA1 PA2 PA3 PA4 PA5 PA6 PA7 PA8 fa hrq hwn (by decide) (by decide) KP
  · refine own_spV (q := 85) (S' := []) (fun _ k_ => XS.ifNo X0.here hx rfl (hb hby d17_82) rfl ((if0 _ _).trans (feq hc1).1) k_) ?_
    refine own_spV (q := 86) (S' := [(.ref kd)]) (fun _ k_ => XS.aloadN X0.here hx rfl (hb hby d17_85) rfl rfl  k_) ?_
    refine own_kgs own_ckV X0 hx hZ hown (host := "") (Or.inl (wd hw 358 rfl)) Via.refl e0 (S_TEXT.ext O0.2) (hb hby d17_86) (q := 89) rfl fun T5 X5 e5 => ?_
    refine own_spV (q := 106) (S' := []) (fun _ k_ => Jvm.RoadKit.acmp (g := (mkF m 89 #[rv a, rv nm, rv kd, iv rq, rv ds, rv ch, iv wn, rv ro, rv ho] [(.ref w_TEXT), (.ref kd)])) X5 hx rfl rfl rfl (pc0 := 89) (pc' := 106) (same := true) rfl (hb hby d17_89) rfl (decide_eq_true (congrArg Value.ref ((hT1 hc1) : kd = w_TEXT))) (by decide) (by decide) k_) ?_
    refine own_spV (q := 108) (S' := [(.ref ho)]) (fun _ k_ => XS.aload X5.here hx rfl (hb hby d17_106) rfl rfl  k_) ?_
    refine own_kcV own_ckV X5 hx hZ hown hml (y := own_m37) (wd hw 162 rfl) (wd hw 163 rfl) (wd hw 165 rfl) (wd hw 164 rfl) (wd hw 110 rfl) (wd hw 166 rfl) (by decide) E_ho (rm_ispr l Z a0 hw [] ho hv hB n0 O0 F_ho hhv) (by decide) (by decide) (W := 0) (Nat.le_of_eq rfl) (argsL := []) (rest := []) (lenOf pd___Z rfl) rfl rfl (hb hby d17_108) rfl e5 (by decide) (by decide) (c' := 13) (s' := 310) rfl rfl (q := 111) rfl fun _ T6 L6 X6 hQ6 => ?_
    obtain ⟨rfl, Nq6, eq6⟩ := hQ6
    have N6 := Fr.app N0 Nq6
    show own_V p e below s _ _ _ T6 (mkF m 111 _ [(.int (own_pv hv))])
    by_cases hc7 : (own_pv hv) = (0 : Int32)
    · refine own_spV (q := 135) (S' := []) (fun _ k_ => XS.ifYes X6.here hx rfl (pc0 := 111) (pc' := 135) rfl (hb hby d17_111) rfl ((if0 _ _).trans (teq hc7).1) (by decide) (by decide) k_) ?_
      exact seg_p135 h0 hB n0 a ch nm kd rq ds wn ro ho hv w_TEXT P _ _ _ X6 hx hZs hZ hS0 hk0 wm0 hw hby hml howns hown hnm hret hlk eq6 N6 O0 PA0 PA1 PA2 PA3 PA4 PA5 PA6 PA7 PA8 fa hrq hwn (by decide) (by decide) KP
    · refine own_spV (q := 114) (S' := []) (fun _ k_ => XS.ifNo X6.here hx rfl (hb hby d17_111) rfl ((if0 _ _).trans (feq hc7).1) k_) ?_
      refine own_spV (q := 115) (S' := [(.ref kd)]) (fun _ k_ => XS.aloadN X6.here hx rfl (hb hby d17_114) rfl rfl  k_) ?_
      refine own_kgs own_ckV X6 hx hZ hown (host := "") (Or.inl (wd hw 358 rfl)) Via.refl eq6 (S_TEXT.ext O0.2) (hb hby d17_115) (q := 118) rfl fun T8 X8 e8 => ?_
      refine own_spV (q := 135) (S' := []) (fun _ k_ => Jvm.RoadKit.acmp (g := (mkF m 118 #[rv a, rv nm, rv kd, iv rq, rv ds, rv ch, iv wn, rv ro, rv ho] [(.ref w_TEXT), (.ref kd)])) X8 hx rfl rfl rfl (pc0 := 118) (pc' := 135) (same := true) rfl (hb hby d17_118) rfl (decide_eq_true (congrArg Value.ref ((hT2 hc7) : kd = w_TEXT))) (by decide) (by decide) k_) ?_
      exact seg_p135 h0 hB n0 a ch nm kd rq ds wn ro ho hv w_TEXT P _ _ _ X8 hx hZs hZ hS0 hk0 wm0 hw hby hml howns hown hnm hret hlk e8 N6 O0 PA0 PA1 PA2 PA3 PA4 PA5 PA6 PA7 PA8 fa hrq hwn (by decide) (by decide) KP
theorem seg_p80w (h0 : Heap) (hB : Heap) (n0 : Nat) (a : Addr) (ch : Addr) (nm : Addr) (kd : Addr) (rq : Int32) (ds : Addr) (wn : Int32) (ro : Addr) (ho : Addr) (hv : Value) (w_TEXT : Addr) (P : Option Value → Heap → List Loc → Vm → Prop)
    (X0 : Stand p l e (rm4 9 0 0 160) (s.setVm vm0) m args below meth c T0 locs 0 0) (hx : p.tables.exec = Jvm.exec) (hZs : Z.Warmed39 s.vm) (hZ : Z.Warmed39 (s.setVm vm0).vm) (hS0 : s.Since vm0 k0) (hk0 : k0 ≤ hB.size) (wm0 : own_wm Z vm0) (hw : own_HW a0 Z) (hby : c.code = bc17) (hml : c.maxLocals = 9) (howns : s.vm.findClass ks0 = some m.cls) (hown : (s.setVm vm0).vm.findClass ks0 = some m.cls) (hnm : meth.name = "<init>") (hret : meth.sig.returnType = none) (hlk : meth.locks = false) (e0 : T0.heap = hB) (N0 : Fr n0 locs) (O0 : Old Z n0 hB) (PA0 : Exa Z hB a ks0) (PA1 : Fld Z hB a ks0 "name" ks13 .null) (PA2 : Fld Z hB a ks0 "kind" ks5 .null) (PA3 : Fld Z hB a ks0 ks23 "Z" (.int (0 : Int32))) (PA4 : Fld Z hB a ks0 ks21 ks13 .null) (PA5 : Fld Z hB a ks0 "choices" ks16 .null) (PA6 : Fld Z hB a ks0 ks22 "Z" (.int (0 : Int32))) (PA7 : Fld Z hB a ks0 "role" ks7 .null) (PA8 : Fld Z hB a ks0 "header" ks15 .null) (fa : n0 ≤ a) (E_ho : Exa Z hB ho ks14) (F_ho : Fld Z hB ho ks14 "value" ks12 hv) (hhv : hv.isRef = true) (hrq : own_B rq) (hwn : own_B wn) (hT1 : ¬ wn = (0 : Int32) → kd = w_TEXT) (hT2 : ¬ own_pv hv = (0 : Int32) → kd = w_TEXT) (S_TEXT : Sta Z Z.heap ks9 "TEXT" ks5 (.ref w_TEXT)) (KP : ∀ (h : Heap) (L : List Loc) (vm : Vm), Keep hB h [a] → Exa Z h a ks0 → Fld Z h a ks0 "name" ks13 (.ref nm) → Fld Z h a ks0 "kind" ks5 (.ref kd) → Fld Z h a ks0 ks23 "Z" (.int rq) → Fld Z h a ks0 ks21 ks13 (.ref ds) → Fld Z h a ks0 "choices" ks16 (.ref ch) → Fld Z h a ks0 ks22 "Z" (.int wn) → Fld Z h a ks0 "role" ks7 (.ref ro) → Fld Z h a ks0 "header" ks15 (.ref ho) → Fr n0 L → own_wm Z vm → P none h L vm) :
    own_V p e below s (rm4 9 0 0 160).cells (rm4 9 0 0 160).slots (P) T0 (mkF m 80 #[rv a, rv nm, rv kd, iv rq, rv ds, rv ch, iv wn, rv ro, rv ho] []) := by
  refine own_stV (T' := T0) (g' := (mkF m 82 #[rv a, rv nm, rv kd, iv rq, rv ds, rv ch, iv wn, rv ro, rv ho] [(.int wn)])) (fun _ k_ => XS.iload X0.here hx rfl (hb hby d17_80) rfl  k_) ?_
  by_cases hc1 : wn = (0 : Int32)
  · refine own_spV (q := 106) (S' := []) (fun _ k_ => XS.ifYes X0.here hx rfl (pc0 := 82) (pc' := 106) rfl (hb hby d17_82) rfl ((if0 _ _).trans (teq hc1).1) (by decide) (by decide) k_) ?_
    refine own_spV (q := 108) (S' := [(.ref ho)]) (fun _ k_ => XS.aload X0.here hx rfl (hb hby d17_106) rfl rfl  k_) ?_
    refine own_kcV own_ckV X0 hx hZ hown hml (y := own_m37) (wd hw 162 rfl) (wd hw 163 rfl) (wd hw 165 rfl) (wd hw 164 rfl) (wd hw 110 rfl) (wd hw 166 rfl) (by decide) E_ho (rm_ispr l Z a0 hw [] ho hv hB n0 O0 F_ho hhv) (by decide) (by decide) (W := 0) (Nat.le_of_eq rfl) (argsL := []) (rest := []) (lenOf pd___Z rfl) rfl rfl (hb hby d17_108) rfl e0 (by decide) (by decide) (c' := 0) (s' := 0) rfl rfl (q := 111) rfl fun _ T2 L2 X2 hQ2 => ?_
    obtain ⟨rfl, Nq2, eq2⟩ := hQ2
    have N2 := Fr.app N0 Nq2
    show own_V p e below s _ _ _ T2 (mkF m 111 _ [(.int (own_pv hv))])
    by_cases hc3 : (own_pv hv) = (0 : Int32)
    · refine own_spV (q := 135) (S' := []) (fun _ k_ => XS.ifYes X2.here hx rfl (pc0 := 111) (pc' := 135) rfl (hb hby d17_111) rfl ((if0 _ _).trans (teq hc3).1) (by decide) (by decide) k_) ?_
      exact seg_p135 h0 hB n0 a ch nm kd rq ds wn ro ho hv w_TEXT P _ _ _ X2 hx hZs hZ hS0 hk0 wm0 hw hby hml howns hown hnm hret hlk eq2 N2 O0 PA0 PA1 PA2 PA3 PA4 PA5 PA6 PA7 PA8 fa hrq hwn (by decide) (by decide) KP
    · refine own_spV (q := 114) (S' := []) (fun _ k_ => XS.ifNo X2.here hx rfl (hb hby d17_111) rfl ((if0 _ _).trans (feq hc3).1) k_) ?_
      refine own_spV (q := 115) (S' := [(.ref kd)]) (fun _ k_ => XS.aloadN X2.here hx rfl (hb hby d17_114) rfl rfl  k_) ?_
      refine own_kgs own_ckV X2 hx hZ hown (host := "") (Or.inl (wd hw 358 rfl)) Via.refl eq2 (S_TEXT.ext O0.2) (hb hby d17_115) (q := 118) rfl fun T4 X4 e4 => ?_
      refine own_spV (q := 135) (S' := []) (fun _ k_ => Jvm.RoadKit.acmp (g := (mkF m 118 #[rv a, rv nm, rv kd, iv rq, rv ds, rv ch, iv wn, rv ro, rv ho] [(.ref w_TEXT), (.ref kd)])) X4 hx rfl rfl rfl (pc0 := 118) (pc' := 135) (same := true) rfl (hb hby d17_118) rfl (decide_eq_true (congrArg Value.ref ((hT2 hc3) : kd = w_TEXT))) (by decide) (by decide) k_) ?_
      exact seg_p135 h0 hB n0 a ch nm kd rq ds wn ro ho hv w_TEXT P _ _ _ X4 hx hZs hZ hS0 hk0 wm0 hw hby hml howns hown hnm hret hlk e4 N2 O0 PA0 PA1 PA2 PA3 PA4 PA5 PA6 PA7 PA8 fa hrq hwn (by decide) (by decide) KP
  · refine own_spV (q := 85) (S' := []) (fun _ k_ => XS.ifNo X0.here hx rfl (hb hby d17_82) rfl ((if0 _ _).trans (feq hc1).1) k_) ?_
    refine own_spV (q := 86) (S' := [(.ref kd)]) (fun _ k_ => XS.aloadN X0.here hx rfl (hb hby d17_85) rfl rfl  k_) ?_
    refine own_kgs own_ckV X0 hx hZ hown (host := "") (Or.inl (wd hw 358 rfl)) Via.refl e0 (S_TEXT.ext O0.2) (hb hby d17_86) (q := 89) rfl fun T5 X5 e5 => ?_
    refine own_spV (q := 106) (S' := []) (fun _ k_ => Jvm.RoadKit.acmp (g := (mkF m 89 #[rv a, rv nm, rv kd, iv rq, rv ds, rv ch, iv wn, rv ro, rv ho] [(.ref w_TEXT), (.ref kd)])) X5 hx rfl rfl rfl (pc0 := 89) (pc' := 106) (same := true) rfl (hb hby d17_89) rfl (decide_eq_true (congrArg Value.ref ((hT1 hc1) : kd = w_TEXT))) (by decide) (by decide) k_) ?_
    refine own_spV (q := 108) (S' := [(.ref ho)]) (fun _ k_ => XS.aload X5.here hx rfl (hb hby d17_106) rfl rfl  k_) ?_
    refine own_kcV own_ckV X5 hx hZ hown hml (y := own_m37) (wd hw 162 rfl) (wd hw 163 rfl) (wd hw 165 rfl) (wd hw 164 rfl) (wd hw 110 rfl) (wd hw 166 rfl) (by decide) E_ho (rm_ispr l Z a0 hw [] ho hv hB n0 O0 F_ho hhv) (by decide) (by decide) (W := 0) (Nat.le_of_eq rfl) (argsL := []) (rest := []) (lenOf pd___Z rfl) rfl rfl (hb hby d17_108) rfl e5 (by decide) (by decide) (c' := 0) (s' := 0) rfl rfl (q := 111) rfl fun _ T6 L6 X6 hQ6 => ?_
    obtain ⟨rfl, Nq6, eq6⟩ := hQ6
    have N6 := Fr.app N0 Nq6
    show own_V p e below s _ _ _ T6 (mkF m 111 _ [(.int (own_pv hv))])
    by_cases hc7 : (own_pv hv) = (0 : Int32)
    · refine own_spV (q := 135) (S' := []) (fun _ k_ => XS.ifYes X6.here hx rfl (pc0 := 111) (pc' := 135) rfl (hb hby d17_111) rfl ((if0 _ _).trans (teq hc7).1) (by decide) (by decide) k_) ?_
      exact seg_p135 h0 hB n0 a ch nm kd rq ds wn ro ho hv w_TEXT P _ _ _ X6 hx hZs hZ hS0 hk0 wm0 hw hby hml howns hown hnm hret hlk eq6 N6 O0 PA0 PA1 PA2 PA3 PA4 PA5 PA6 PA7 PA8 fa hrq hwn (by decide) (by decide) KP
    · refine own_spV (q := 114) (S' := []) (fun _ k_ => XS.ifNo X6.here hx rfl (hb hby d17_111) rfl ((if0 _ _).trans (feq hc7).1) k_) ?_
      refine own_spV (q := 115) (S' := [(.ref kd)]) (fun _ k_ => XS.aloadN X6.here hx rfl (hb hby d17_114) rfl rfl  k_) ?_
      refine own_kgs own_ckV X6 hx hZ hown (host := "") (Or.inl (wd hw 358 rfl)) Via.refl eq6 (S_TEXT.ext O0.2) (hb hby d17_115) (q := 118) rfl fun T8 X8 e8 => ?_
      refine own_spV (q := 135) (S' := []) (fun _ k_ => Jvm.RoadKit.acmp (g := (mkF m 118 #[rv a, rv nm, rv kd, iv rq, rv ds, rv ch, iv wn, rv ro, rv ho] [(.ref w_TEXT), (.ref kd)])) X8 hx rfl rfl rfl (pc0 := 118) (pc' := 135) (same := true) rfl (hb hby d17_118) rfl (decide_eq_true (congrArg Value.ref ((hT2 hc7) : kd = w_TEXT))) (by decide) (by decide) k_) ?_
      exact seg_p135 h0 hB n0 a ch nm kd rq ds wn ro ho hv w_TEXT P _ _ _ X8 hx hZs hZ hS0 hk0 wm0 hw hby hml howns hown hnm hret hlk e8 N6 O0 PA0 PA1 PA2 PA3 PA4 PA5 PA6 PA7 PA8 fa hrq hwn (by decide) (by decide) KP
theorem own_extR (h : Heap) : Ext h h := ⟨Nat.le_refl _, fun _ _ q => q⟩
theorem own_extT {h h1 h2 : Heap} (E : Ext h h1) (F : Ext h1 h2) : Ext h h2 := ⟨Nat.le_trans E.1 F.1, fun a c q => F.2 a c (E.2 a c q)⟩
theorem own_mono {l : Launch} {y : MethodName} {ws : List Jvm.Cond} {R : Room} {A : Array Value} {Z : State} {h : Heap} {Q Q' : Option Value → Heap → List Loc → Prop} (hM : own_MF l y ws R A Z h Q) (hQ : ∀ v h L, Q v h L → Q' v h L) : own_MF l y ws R A Z h Q' := fun p e ha hc hk s m args below hf happ hP hK => by
  obtain ⟨n, o, h1, h2, h3, v, L, h4, h5, h6⟩ := hM p e ha hc hk s m args below hf happ hP hK
  exact ⟨n, o, h1, h2, h3, v, L, h4, hQ _ _ _ h5, h6⟩
theorem d17_0 : own_D bc17 0 (.aload_n 0) 1 := by decide +kernel
theorem d17_1 : own_D bc17 1 (.invokespecial 1) 3 := by decide +kernel
theorem d17_4 : own_D bc17 4 (.aload_n 1) 1 := by decide +kernel
theorem d17_5 : own_D bc17 5 (.ldc 7) 2 := by decide +kernel
theorem d17_7 : own_D bc17 7 (.invokestatic 9) 3 := by decide +kernel
theorem d17_10 : own_D bc17 10 (.pop) 1 := by decide +kernel
theorem d17_11 : own_D bc17 11 (.aload_n 2) 1 := by decide +kernel
theorem d17_12 : own_D bc17 12 (.ldc 15) 2 := by decide +kernel
theorem d17_14 : own_D bc17 14 (.invokestatic 9) 3 := by decide +kernel
theorem d17_17 : own_D bc17 17 (.pop) 1 := by decide +kernel
theorem d17_18 : own_D bc17 18 (.aload 4) 2 := by decide +kernel
theorem d17_20 : own_D bc17 20 (.ldc 17) 2 := by decide +kernel
theorem d17_22 : own_D bc17 22 (.invokestatic 9) 3 := by decide +kernel
theorem d17_25 : own_D bc17 25 (.pop) 1 := by decide +kernel
theorem d17_26 : own_D bc17 26 (.aload 7) 2 := by decide +kernel
theorem d17_28 : own_D bc17 28 (.ldc 19) 2 := by decide +kernel
theorem d17_30 : own_D bc17 30 (.invokestatic 9) 3 := by decide +kernel
theorem d17_33 : own_D bc17 33 (.pop) 1 := by decide +kernel
theorem d17_34 : own_D bc17 34 (.aload 8) 2 := by decide +kernel
theorem d17_36 : own_D bc17 36 (.ldc 21) 2 := by decide +kernel
theorem d17_38 : own_D bc17 38 (.invokestatic 9) 3 := by decide +kernel
theorem d17_41 : own_D bc17 41 (.pop) 1 := by decide +kernel
theorem d17_42 : own_D bc17 42 (.aload 5) 2 := by decide +kernel
theorem d17_44 : own_D bc17 44 (.invokestatic 23) 3 := by decide +kernel
theorem d17_47 : own_D bc17 47 (.astore 5) 2 := by decide +kernel
theorem d17_49 : own_D bc17 49 (.aload 5) 2 := by decide +kernel
theorem d17_51 : own_D bc17 51 (.invokeinterface 29 1) 5 := by decide +kernel
theorem d17_56 : own_D bc17 56 (.ifCond .ne 24) 3 := by decide +kernel
theorem d17_59 : own_D bc17 59 (.aload_n 2) 1 := by decide +kernel
theorem d17_60 : own_D bc17 60 (.getstatic 33) 3 := by decide +kernel
theorem d17_63 : own_D bc17 63 (.if_acmp .eq 17) 3 := by decide +kernel
theorem pd__Ljava_lang_Object_Ljava_lang_String__Ljava_lang_Object_ : parseMethodDescriptor "(Ljava/lang/Object;Ljava/lang/String;)Ljava/lang/Object;" = some ⟨[(.object "java/lang/Object"), (.object "java/lang/String")], some (.object "java/lang/Object")⟩ := by decide +kernel
theorem pn_16 : plainName "com/example/countersign/countersign/Parameter" = true := by first | (simp [plainName, overriddenIn]; done) | decide +kernel
theorem ef_ini_IL (m : MethodId) (x0 : Addr) (x1 : Addr) (x2 : Addr) (x3 : Int32) (x4 : Addr) (x5 : Addr) (x6 : Int32) (x7 : Addr) (x8 : Addr) : entryFrame m #[(.ref x0), (.ref x1), (.ref x2), (.int x3), (.ref x4), (.ref x5), (.int x6), (.ref x7), (.ref x8)] 9 = mkF m 0 #[rv x0, rv x1, rv x2, iv x3, rv x4, rv x5, iv x6, rv x7, rv x8] [] := by simp [entryFrame, mkF, argsToLocals, Value.category]
def Q_ini_IL (Z : State) (a : Addr) (nm : Addr) (kd : Addr) (rq : Int32) (ds : Addr) (wn : Int32) (ro : Addr) (ho : Addr) (hv : Value) (w_TEXT : Addr) (ch : Addr) (ne : Int32) (h0 : Heap) (n0 : Nat) (v : Option Value) (h : Heap) (L : List Loc) (vm : Vm) : Prop := (v = none) ∧ (Fr n0 L) ∧ (Keep h0 h [a]) ∧ (Exa Z h a ks0) ∧ (Fld Z h a ks0 "name" ks13 (.ref nm)) ∧ (Fld Z h a ks0 "kind" ks5 (.ref kd)) ∧ (Fld Z h a ks0 ks23 "Z" (.int rq)) ∧ (Fld Z h a ks0 ks21 ks13 (.ref ds)) ∧ (Fld Z h a ks0 "choices" ks16 (.ref ch)) ∧ (Fld Z h a ks0 ks22 "Z" (.int wn)) ∧ (Fld Z h a ks0 "role" ks7 (.ref ro)) ∧ (Fld Z h a ks0 "header" ks15 (.ref ho)) ∧ (own_wm Z vm)
theorem rm_ini_IL (l : Launch) (Z : State) (a0 : Array Value) (hw : own_HW a0 Z) (ws : List Jvm.Cond) (a : Addr) (nm : Addr) (kd : Addr) (rq : Int32) (ds : Addr) (wn : Int32) (ro : Addr) (ho : Addr) (hv : Value) (w_TEXT : Addr) (ch : Addr) (ne : Int32) (h0 : Heap) (n0 : Nat) (O0 : Old Z n0 h0) (PA0 : Exa Z h0 a ks0) (PA1 : Fld Z h0 a ks0 "name" ks13 .null) (PA2 : Fld Z h0 a ks0 "kind" ks5 .null) (PA3 : Fld Z h0 a ks0 ks23 "Z" (.int (0 : Int32))) (PA4 : Fld Z h0 a ks0 ks21 ks13 .null) (PA5 : Fld Z h0 a ks0 "choices" ks16 .null) (PA6 : Fld Z h0 a ks0 ks22 "Z" (.int (0 : Int32))) (PA7 : Fld Z h0 a ks0 "role" ks7 .null) (PA8 : Fld Z h0 a ks0 "header" ks15 .null) (fa : n0 ≤ a) (E_ho : Exa Z h0 ho ks14) (F_ho : Fld Z h0 ho ks14 "value" ks12 hv) (hhv : hv.isRef = true) (hrq : own_B rq) (hwn : own_B wn) (hT1 : ¬ wn = (0 : Int32) → kd = w_TEXT) (hT2 : ¬ own_pv hv = (0 : Int32) → kd = w_TEXT) (S_TEXT : Sta Z Z.heap ks9 "TEXT" ks5 (.ref w_TEXT)) (IL_ch : own_IL Z h0 ch ne) (hkt : ne = (0 : Int32) → kd = w_TEXT) :
    own_MV l own_m46 (Jvm.Cond.code own_m46 bc17 9 none :: ws) (rm4 9 10 296 160) #[(.ref a), (.ref nm), (.ref kd), (.int rq), (.ref ds), (.ref ch), (.int wn), (.ref ro), (.ref ho)] Z h0 (fun _ => True) (Q_ini_IL Z a nm kd rq ds wn ro ho hv w_TEXT ch ne h0 n0) := by
  refine own_metV (own := ks0) (nme := "<init>") rfl rfl (plainFor_of_name pn_16) ?_
  intro p e s m below meth c s₁ hx hby hml hown hnm X0 e0 hret hlk hZ hS0 wm0
  have hZs := hZ
  have howns := hown
  have N0 := Fr.nil n0
  rw [ef_ini_IL m a nm kd rq ds ch wn ro ho]
  refine own_stV (T' := s₁) (g' := (mkF m 1 #[rv a, rv nm, rv kd, iv rq, rv ds, rv ch, iv wn, rv ro, rv ho] [(.ref a)])) (fun _ k_ => XS.aloadN X0.here hx rfl (hb hby d17_0) rfl rfl  k_) ?_
  refine own_kcI own_ckV X0 hx hZ hown hml (y := own_m44) rfl (wd hw 116 rfl) (wd hw 117 rfl) (wd hw 119 rfl) (wd hw 120 rfl) (by decide) (a := a) (rm_rec l Z a0 hw [] a h0 n0 O0) (by decide) (by decide) (W := 0) (Nat.le_of_eq rfl) (argsL := []) (rest := []) (lenOf pd___V rfl) rfl rfl (hb hby d17_1) rfl e0 (by decide) (by decide) (c' := 0) (s' := 0) rfl rfl (q := 4) rfl fun _ T1 L1 X1 hQ1 => ?_
  obtain ⟨rfl, Nq1, eq1⟩ := hQ1
  have N1 := Fr.app N0 Nq1
  show own_V p e below s _ _ _ T1 (mkF m 4 _ [])
  refine own_spV (q := 5) (S' := [(.ref nm)]) (fun _ k_ => XS.aloadN X1.here hx rfl (hb hby d17_4) rfl rfl  k_) ?_
  obtain ⟨a2, T2, h2, X2, e2, E2, hS2, hZ2, hown2, hW2, Lt2, st2⟩ := own_ldcV X1 hx hZ hown (wd hw 122 rfl) (own_wS hw) eq1 hS0 (Nat.le_refl _) (g := (mkF m 5 #[rv a, rv nm, rv kd, iv rq, rv ds, rv ch, iv wn, rv ro, rv ho] [(.ref nm)])) rfl (hb hby d17_5) (n := 48) (by decide) (by decide) (by decide) (by decide)
  refine own_spV (q := 7) (S' := [(.ref a2), (.ref nm)]) st2 ?_
  clear st2
  have f3 := O0.ext E2
  refine own_kcS own_ckV X2 hx hZ2 hown2 hml (y := own_m36) (wd hw 125 rfl) (wd hw 126 rfl) (wd hw 127 rfl) (wd hw 128 rfl) (by decide) (rm_rnn2 l Z a0 hw [] nm a2 h2 n0 f3) (by decide) (by decide) (W := 0) (Nat.le_of_eq rfl) (argsL := [(.ref nm), (.ref a2)]) (rest := []) (lenOf pd__Ljava_lang_Object_Ljava_lang_String__Ljava_lang_Object_ rfl) rfl rfl (hb hby d17_7) rfl e2 (by decide) (by decide) (c' := 2) (s' := 52) rfl rfl (q := 10) rfl fun _ T4 L4 X4 hQ4 => ?_
  obtain ⟨rfl, Nq4, eq4⟩ := hQ4
  have N4 := Fr.app N1 Nq4
  show own_V p e below s _ _ _ T4 (mkF m 10 _ [(.ref nm)])
  refine own_spV (q := 11) (S' := []) (fun _ k_ => XS.pop X4.here hx rfl (hb hby d17_10) rfl rfl k_) ?_
  refine own_spV (q := 12) (S' := [(.ref kd)]) (fun _ k_ => XS.aloadN X4.here hx rfl (hb hby d17_11) rfl rfl  k_) ?_
  obtain ⟨a5, T5, h5, X5, e5, E5, hS5, hZ5, hown5, hW5, Lt5, st5⟩ := own_ldcV X4 hx hZ2 hown2 (wd hw 129 rfl) (own_wS hw) eq4 hS2 (Nat.le_refl _) (g := (mkF m 12 #[rv a, rv nm, rv kd, iv rq, rv ds, rv ch, iv wn, rv ro, rv ho] [(.ref kd)])) rfl (hb hby d17_12) (n := 48) (by decide) (by decide) (by decide) (by decide)
  have Lt6 := Lit.stays (s := Z) Lt2 hW5
  refine own_spV (q := 14) (S' := [(.ref a5), (.ref kd)]) st5 ?_
  clear st5
  have f7 := f3.ext E5
  refine own_kcS own_ckV X5 hx hZ5 hown5 hml (y := own_m36) (wd hw 125 rfl) (wd hw 126 rfl) (wd hw 127 rfl) (wd hw 128 rfl) (by decide) (rm_rnn2 l Z a0 hw [] kd a5 h5 n0 f7) (by decide) (by decide) (W := 0) (Nat.le_of_eq rfl) (argsL := [(.ref kd), (.ref a5)]) (rest := []) (lenOf pd__Ljava_lang_Object_Ljava_lang_String__Ljava_lang_Object_ rfl) rfl rfl (hb hby d17_14) rfl e5 (by decide) (by decide) (c' := 4) (s' := 104) rfl rfl (q := 17) rfl fun _ T8 L8 X8 hQ8 => ?_
  obtain ⟨rfl, Nq8, eq8⟩ := hQ8
  have N8 := Fr.app N4 Nq8
  show own_V p e below s _ _ _ T8 (mkF m 17 _ [(.ref kd)])
  refine own_spV (q := 18) (S' := []) (fun _ k_ => XS.pop X8.here hx rfl (hb hby d17_17) rfl rfl k_) ?_
  refine own_spV (q := 20) (S' := [(.ref ds)]) (fun _ k_ => XS.aload X8.here hx rfl (hb hby d17_18) rfl rfl  k_) ?_
  obtain ⟨a9, T9, h9, X9, e9, E9, hS9, hZ9, hown9, hW9, Lt9, st9⟩ := own_ldcV X8 hx hZ5 hown5 (wd hw 130 rfl) (own_wS hw) eq8 hS5 (Nat.le_refl _) (g := (mkF m 20 #[rv a, rv nm, rv kd, iv rq, rv ds, rv ch, iv wn, rv ro, rv ho] [(.ref ds)])) rfl (hb hby d17_20) (n := 76) (by decide) (by decide) (by decide) (by decide)
  have Lt10 := Lit.stays (s := Z) Lt6 hW9
  have Lt11 := Lit.stays (s := Z) Lt5 hW9
  refine own_spV (q := 22) (S' := [(.ref a9), (.ref ds)]) st9 ?_
  clear st9
  have f12 := f7.ext E9
  refine own_kcS own_ckV X9 hx hZ9 hown9 hml (y := own_m36) (wd hw 125 rfl) (wd hw 126 rfl) (wd hw 127 rfl) (wd hw 128 rfl) (by decide) (rm_rnn2 l Z a0 hw [] ds a9 h9 n0 f12) (by decide) (by decide) (W := 0) (Nat.le_of_eq rfl) (argsL := [(.ref ds), (.ref a9)]) (rest := []) (lenOf pd__Ljava_lang_Object_Ljava_lang_String__Ljava_lang_Object_ rfl) rfl rfl (hb hby d17_22) rfl e9 (by decide) (by decide) (c' := 6) (s' := 184) rfl rfl (q := 25) rfl fun _ T13 L13 X13 hQ13 => ?_
  obtain ⟨rfl, Nq13, eq13⟩ := hQ13
  have N13 := Fr.app N8 Nq13
  show own_V p e below s _ _ _ T13 (mkF m 25 _ [(.ref ds)])
  refine own_spV (q := 26) (S' := []) (fun _ k_ => XS.pop X13.here hx rfl (hb hby d17_25) rfl rfl k_) ?_
  refine own_spV (q := 28) (S' := [(.ref ro)]) (fun _ k_ => XS.aload X13.here hx rfl (hb hby d17_26) rfl rfl  k_) ?_
  obtain ⟨a14, T14, h14, X14, e14, E14, hS14, hZ14, hown14, hW14, Lt14, st14⟩ := own_ldcV X13 hx hZ9 hown9 (wd hw 131 rfl) (own_wS hw) eq13 hS9 (Nat.le_refl _) (g := (mkF m 28 #[rv a, rv nm, rv kd, iv rq, rv ds, rv ch, iv wn, rv ro, rv ho] [(.ref ro)])) rfl (hb hby d17_28) (n := 48) (by decide) (by decide) (by decide) (by decide)
  have Lt15 := Lit.stays (s := Z) Lt10 hW14
  have Lt16 := Lit.stays (s := Z) Lt11 hW14
  have Lt17 := Lit.stays (s := Z) Lt9 hW14
  refine own_spV (q := 30) (S' := [(.ref a14), (.ref ro)]) st14 ?_
  clear st14
  have f18 := f12.ext E14
  refine own_kcS own_ckV X14 hx hZ14 hown14 hml (y := own_m36) (wd hw 125 rfl) (wd hw 126 rfl) (wd hw 127 rfl) (wd hw 128 rfl) (by decide) (rm_rnn2 l Z a0 hw [] ro a14 h14 n0 f18) (by decide) (by decide) (W := 0) (Nat.le_of_eq rfl) (argsL := [(.ref ro), (.ref a14)]) (rest := []) (lenOf pd__Ljava_lang_Object_Ljava_lang_String__Ljava_lang_Object_ rfl) rfl rfl (hb hby d17_30) rfl e14 (by decide) (by decide) (c' := 8) (s' := 236) rfl rfl (q := 33) rfl fun _ T19 L19 X19 hQ19 => ?_
  obtain ⟨rfl, Nq19, eq19⟩ := hQ19
  have N19 := Fr.app N13 Nq19
  show own_V p e below s _ _ _ T19 (mkF m 33 _ [(.ref ro)])
  refine own_spV (q := 34) (S' := []) (fun _ k_ => XS.pop X19.here hx rfl (hb hby d17_33) rfl rfl k_) ?_
  refine own_spV (q := 36) (S' := [(.ref ho)]) (fun _ k_ => XS.aload X19.here hx rfl (hb hby d17_34) rfl rfl  k_) ?_
  obtain ⟨a20, T20, h20, X20, e20, E20, hS20, hZ20, hown20, hW20, Lt20, st20⟩ := own_ldcV X19 hx hZ14 hown14 (wd hw 132 rfl) (own_wS hw) eq19 hS14 (Nat.le_refl _) (g := (mkF m 36 #[rv a, rv nm, rv kd, iv rq, rv ds, rv ch, iv wn, rv ro, rv ho] [(.ref ho)])) rfl (hb hby d17_36) (n := 56) (by decide) (by decide) (by decide) (by decide)
  have Lt21 := Lit.stays (s := Z) Lt15 hW20
  have Lt22 := Lit.stays (s := Z) Lt16 hW20
  have Lt23 := Lit.stays (s := Z) Lt17 hW20
  have Lt24 := Lit.stays (s := Z) Lt14 hW20
  refine own_spV (q := 38) (S' := [(.ref a20), (.ref ho)]) st20 ?_
  clear st20
  have f25 := f18.ext E20
  refine own_kcS own_ckV X20 hx hZ20 hown20 hml (y := own_m36) (wd hw 125 rfl) (wd hw 126 rfl) (wd hw 127 rfl) (wd hw 128 rfl) (by decide) (rm_rnn2 l Z a0 hw [] ho a20 h20 n0 f25) (by decide) (by decide) (W := 0) (Nat.le_of_eq rfl) (argsL := [(.ref ho), (.ref a20)]) (rest := []) (lenOf pd__Ljava_lang_Object_Ljava_lang_String__Ljava_lang_Object_ rfl) rfl rfl (hb hby d17_38) rfl e20 (by decide) (by decide) (c' := 10) (s' := 296) rfl rfl (q := 41) rfl fun _ T26 L26 X26 hQ26 => ?_
  obtain ⟨rfl, Nq26, eq26⟩ := hQ26
  have N26 := Fr.app N19 Nq26
  show own_V p e below s _ _ _ T26 (mkF m 41 _ [(.ref ho)])
  refine own_spV (q := 42) (S' := []) (fun _ k_ => XS.pop X26.here hx rfl (hb hby d17_41) rfl rfl k_) ?_
  refine own_spV (q := 44) (S' := [(.ref ch)]) (fun _ k_ => XS.aload X26.here hx rfl (hb hby d17_42) rfl rfl  k_) ?_
  have f27 := own_ILe IL_ch E2
  have f28 := own_ILe f27 E5
  have f29 := own_ILe f28 E9
  have f30 := own_ILe f29 E14
  have f31 := own_ILe f30 E20
  refine own_kcS own_ckV X26 hx hZ20 hown20 hml (y := own_m32) (wd hw 133 rfl) (wd hw 134 rfl) (wd hw 103 rfl) (wd hw 135 rfl) (by decide) (rm_cpi l Z a0 hw [] ch ne h20 n0 f25 f31) (by decide) (by decide) (W := 0) (Nat.le_of_eq rfl) (argsL := [(.ref ch)]) (rest := []) (lenOf pd__Ljava_util_Collection__Ljava_util_List_ rfl) rfl rfl (hb hby d17_44) rfl eq26 (by decide) (by decide) (c' := 10) (s' := 296) rfl rfl (q := 47) rfl fun _ T32 L32 X32 hQ32 => ?_
  obtain ⟨rfl, Nq32, eq32⟩ := hQ32
  have N32 := Fr.app N26 Nq32
  show own_V p e below s _ _ _ T32 (mkF m 47 _ [(.ref ch)])
  refine own_spV (q := 49) (S' := []) (fun _ k_ => XS.astore X32.here hx rfl (hb hby d17_47) rfl rfl (l' := #[rv a, rv nm, rv kd, iv rq, rv ds, rv ch, iv wn, rv ro, rv ho]) rfl k_) ?_
  refine own_spV (q := 51) (S' := [(.ref ch)]) (fun _ k_ => XS.aload X32.here hx rfl (hb hby d17_49) rfl rfl  k_) ?_
  rcases f31 with ⟨E_l, hne⟩ | ⟨E_l, F_n, uu, cl, F_e, A_u, hne⟩
  · refine own_kcF own_ckV X32 hx hZ20 hown20 hml (z := own_m45) (y := own_m34) (wd hw 151 rfl) (wd hw 152 rfl) (mvT hZ20 (wd hw 153 rfl)) (wd hw 404 rfl) (wd hw 405 rfl) (wd hw 406 rfl) (wd hw 407 rfl) (wd hw 408 rfl) (wd hw 390 rfl) (wd hw 409 rfl) (by decide) E_l (rm_iem12 l Z a0 hw [] ch h20 n0 f25) (by decide) (by decide) (W := 0) (Nat.le_of_eq rfl) (argsL := []) (rest := []) (lenOf pd___Z rfl) rfl rfl (hb hby d17_51) rfl eq32 (by decide) (by decide) (c' := 10) (s' := 296) rfl rfl (q := 56) rfl fun _ T33 L33 X33 hQ33 => ?_
    obtain ⟨rfl, Nq33, eq33⟩ := hQ33
    have N33 := Fr.app N32 Nq33
    show own_V p e below s _ _ _ T33 (mkF m 56 _ [(.int (0 : Int32))])
    refine own_spV (q := 59) (S' := []) (fun _ k_ => XS.ifNo X33.here hx rfl (hb hby d17_56) rfl ((if0 _ _).trans (teq (rfl : (0 : Int32) = (0 : Int32))).2) k_) ?_
    refine own_spV (q := 60) (S' := [(.ref kd)]) (fun _ k_ => XS.aloadN X33.here hx rfl (hb hby d17_59) rfl rfl  k_) ?_
    refine own_kgs own_ckV X33 hx hZ20 hown20 (host := "") (Or.inl (wd hw 358 rfl)) Via.refl eq33 (S_TEXT.ext f25.2) (hb hby d17_60) (q := 63) rfl fun T34 X34 e34 => ?_
    refine own_spV (q := 80) (S' := []) (fun _ k_ => Jvm.RoadKit.acmp (g := (mkF m 63 #[rv a, rv nm, rv kd, iv rq, rv ds, rv ch, iv wn, rv ro, rv ho] [(.ref w_TEXT), (.ref kd)])) X34 hx rfl rfl rfl (pc0 := 63) (pc' := 80) (same := true) rfl (hb hby d17_63) rfl (decide_eq_true (congrArg Value.ref ((hkt hne.symm) : kd = w_TEXT))) (by decide) (by decide) k_) ?_
    have f35 := PA0.ext E2
    have f36 := f35.ext E5
    have f37 := f36.ext E9
    have f38 := f37.ext E14
    have f39 := f38.ext E20
    have f40 := PA1.ext E2
    have f41 := f40.ext E5
    have f42 := f41.ext E9
    have f43 := f42.ext E14
    have f44 := f43.ext E20
    have f45 := PA2.ext E2
    have f46 := f45.ext E5
    have f47 := f46.ext E9
    have f48 := f47.ext E14
    have f49 := f48.ext E20
    have f50 := PA3.ext E2
    have f51 := f50.ext E5
    have f52 := f51.ext E9
    have f53 := f52.ext E14
    have f54 := f53.ext E20
    have f55 := PA4.ext E2
    have f56 := f55.ext E5
    have f57 := f56.ext E9
    have f58 := f57.ext E14
    have f59 := f58.ext E20
    have f60 := PA5.ext E2
    have f61 := f60.ext E5
    have f62 := f61.ext E9
    have f63 := f62.ext E14
    have f64 := f63.ext E20
    have f65 := PA6.ext E2
    have f66 := f65.ext E5
    have f67 := f66.ext E9
    have f68 := f67.ext E14
    have f69 := f68.ext E20
    have f70 := PA7.ext E2
    have f71 := f70.ext E5
    have f72 := f71.ext E9
    have f73 := f72.ext E14
    have f74 := f73.ext E20
    have f75 := PA8.ext E2
    have f76 := f75.ext E5
    have f77 := f76.ext E9
    have f78 := f77.ext E14
    have f79 := f78.ext E20
    have f80 := E_ho.ext E2
    have f81 := f80.ext E5
    have f82 := f81.ext E9
    have f83 := f82.ext E14
    have f84 := f83.ext E20
    have f85 := F_ho.ext E2
    have f86 := f85.ext E5
    have f87 := f86.ext E9
    have f88 := f87.ext E14
    have f89 := f88.ext E20
    refine seg_p80c h0 h20 n0 a ch nm kd rq ds wn ro ho hv w_TEXT _ (X34.mono (by decide) (by decide)) hx hZs hZ20 hS20 (Nat.le_refl _) ⟨⟨_, Lt21⟩, ⟨_, Lt22⟩, ⟨_, Lt23⟩, ⟨_, Lt24⟩, ⟨_, Lt20⟩⟩ hw hby hml howns hown20 hnm hret hlk e34 N33 f25 f39 f44 f49 f54 f59 f64 f69 f74 f79 fa f84 f89 hhv hrq hwn hT1 hT2 S_TEXT ?_
    intro h_ L_ vm_ K_ G0_ G1_ G2_ G3_ G4_ G5_ G6_ G7_ G8_ N_ W_
    have f90 := (Keep.refl h0 [a]).ext E2
    have f91 := f90.ext E5
    have f92 := f91.ext E9
    have f93 := f92.ext E14
    have f94 := f93.ext E20
    have f95 := f94.trans K_ (allS (Or.inl (List.mem_of_getElem? (i := 0) rfl)) all0)
    exact ⟨rfl, N_, f95, G0_, G1_, G2_, G3_, G4_, G5_, G6_, G7_, G8_, W_⟩
  · refine own_kcF own_ckV X32 hx hZ20 hown20 hml (z := own_m45) (y := own_m35) (wd hw 151 rfl) (wd hw 152 rfl) (mvT hZ20 (wd hw 153 rfl)) (wd hw 154 rfl) (wd hw 155 rfl) (wd hw 156 rfl) (wd hw 157 rfl) (wd hw 150 rfl) (wd hw 158 rfl) (wd hw 159 rfl) (by decide) E_l (rm_iemn l Z a0 hw [] ch uu cl h20 n0 f25 F_e A_u) (by decide) (by decide) (W := 0) (Nat.le_of_eq rfl) (argsL := []) (rest := []) (lenOf pd___Z rfl) rfl rfl (hb hby d17_51) rfl eq32 (by decide) (by decide) (c' := 10) (s' := 296) rfl rfl (q := 56) rfl fun _ T96 L96 X96 hQ96 => ?_
    obtain ⟨rfl, Nq96, eq96⟩ := hQ96
    have N96 := Fr.app N32 Nq96
    show own_V p e below s _ _ _ T96 (mkF m 56 _ [(.int (if cl.slots.size.toInt32 = 0 then (1 : Int32) else 0))])
    by_cases hc97 : (if cl.slots.size.toInt32 = 0 then (1 : Int32) else 0) = (0 : Int32)
    · refine own_spV (q := 59) (S' := []) (fun _ k_ => XS.ifNo X96.here hx rfl (hb hby d17_56) rfl ((if0 _ _).trans (teq hc97).2) k_) ?_
      refine own_spV (q := 60) (S' := [(.ref kd)]) (fun _ k_ => XS.aloadN X96.here hx rfl (hb hby d17_59) rfl rfl  k_) ?_
      refine own_kgs own_ckV X96 hx hZ20 hown20 (host := "") (Or.inl (wd hw 358 rfl)) Via.refl eq96 (S_TEXT.ext f25.2) (hb hby d17_60) (q := 63) rfl fun T98 X98 e98 => ?_
      refine own_spV (q := 80) (S' := []) (fun _ k_ => Jvm.RoadKit.acmp (g := (mkF m 63 #[rv a, rv nm, rv kd, iv rq, rv ds, rv ch, iv wn, rv ro, rv ho] [(.ref w_TEXT), (.ref kd)])) X98 hx rfl rfl rfl (pc0 := 63) (pc' := 80) (same := true) rfl (hb hby d17_63) rfl (decide_eq_true (congrArg Value.ref ((hkt (hne.symm.trans hc97)) : kd = w_TEXT))) (by decide) (by decide) k_) ?_
      have f99 := PA0.ext E2
      have f100 := f99.ext E5
      have f101 := f100.ext E9
      have f102 := f101.ext E14
      have f103 := f102.ext E20
      have f104 := PA1.ext E2
      have f105 := f104.ext E5
      have f106 := f105.ext E9
      have f107 := f106.ext E14
      have f108 := f107.ext E20
      have f109 := PA2.ext E2
      have f110 := f109.ext E5
      have f111 := f110.ext E9
      have f112 := f111.ext E14
      have f113 := f112.ext E20
      have f114 := PA3.ext E2
      have f115 := f114.ext E5
      have f116 := f115.ext E9
      have f117 := f116.ext E14
      have f118 := f117.ext E20
      have f119 := PA4.ext E2
      have f120 := f119.ext E5
      have f121 := f120.ext E9
      have f122 := f121.ext E14
      have f123 := f122.ext E20
      have f124 := PA5.ext E2
      have f125 := f124.ext E5
      have f126 := f125.ext E9
      have f127 := f126.ext E14
      have f128 := f127.ext E20
      have f129 := PA6.ext E2
      have f130 := f129.ext E5
      have f131 := f130.ext E9
      have f132 := f131.ext E14
      have f133 := f132.ext E20
      have f134 := PA7.ext E2
      have f135 := f134.ext E5
      have f136 := f135.ext E9
      have f137 := f136.ext E14
      have f138 := f137.ext E20
      have f139 := PA8.ext E2
      have f140 := f139.ext E5
      have f141 := f140.ext E9
      have f142 := f141.ext E14
      have f143 := f142.ext E20
      have f144 := E_ho.ext E2
      have f145 := f144.ext E5
      have f146 := f145.ext E9
      have f147 := f146.ext E14
      have f148 := f147.ext E20
      have f149 := F_ho.ext E2
      have f150 := f149.ext E5
      have f151 := f150.ext E9
      have f152 := f151.ext E14
      have f153 := f152.ext E20
      refine seg_p80c h0 h20 n0 a ch nm kd rq ds wn ro ho hv w_TEXT _ (X98.mono (by decide) (by decide)) hx hZs hZ20 hS20 (Nat.le_refl _) ⟨⟨_, Lt21⟩, ⟨_, Lt22⟩, ⟨_, Lt23⟩, ⟨_, Lt24⟩, ⟨_, Lt20⟩⟩ hw hby hml howns hown20 hnm hret hlk e98 N96 f25 f103 f108 f113 f118 f123 f128 f133 f138 f143 fa f148 f153 hhv hrq hwn hT1 hT2 S_TEXT ?_
      intro h_ L_ vm_ K_ G0_ G1_ G2_ G3_ G4_ G5_ G6_ G7_ G8_ N_ W_
      have f154 := (Keep.refl h0 [a]).ext E2
      have f155 := f154.ext E5
      have f156 := f155.ext E9
      have f157 := f156.ext E14
      have f158 := f157.ext E20
      have f159 := f158.trans K_ (allS (Or.inl (List.mem_of_getElem? (i := 0) rfl)) all0)
      exact ⟨rfl, N_, f159, G0_, G1_, G2_, G3_, G4_, G5_, G6_, G7_, G8_, W_⟩
    · refine own_spV (q := 80) (S' := []) (fun _ k_ => XS.ifYes X96.here hx rfl (pc0 := 56) (pc' := 80) rfl (hb hby d17_56) rfl ((if0 _ _).trans (feq hc97).2) (by decide) (by decide) k_) ?_
      have f160 := PA0.ext E2
      have f161 := f160.ext E5
      have f162 := f161.ext E9
      have f163 := f162.ext E14
      have f164 := f163.ext E20
      have f165 := PA1.ext E2
      have f166 := f165.ext E5
      have f167 := f166.ext E9
      have f168 := f167.ext E14
      have f169 := f168.ext E20
      have f170 := PA2.ext E2
      have f171 := f170.ext E5
      have f172 := f171.ext E9
      have f173 := f172.ext E14
      have f174 := f173.ext E20
      have f175 := PA3.ext E2
      have f176 := f175.ext E5
      have f177 := f176.ext E9
      have f178 := f177.ext E14
      have f179 := f178.ext E20
      have f180 := PA4.ext E2
      have f181 := f180.ext E5
      have f182 := f181.ext E9
      have f183 := f182.ext E14
      have f184 := f183.ext E20
      have f185 := PA5.ext E2
      have f186 := f185.ext E5
      have f187 := f186.ext E9
      have f188 := f187.ext E14
      have f189 := f188.ext E20
      have f190 := PA6.ext E2
      have f191 := f190.ext E5
      have f192 := f191.ext E9
      have f193 := f192.ext E14
      have f194 := f193.ext E20
      have f195 := PA7.ext E2
      have f196 := f195.ext E5
      have f197 := f196.ext E9
      have f198 := f197.ext E14
      have f199 := f198.ext E20
      have f200 := PA8.ext E2
      have f201 := f200.ext E5
      have f202 := f201.ext E9
      have f203 := f202.ext E14
      have f204 := f203.ext E20
      have f205 := E_ho.ext E2
      have f206 := f205.ext E5
      have f207 := f206.ext E9
      have f208 := f207.ext E14
      have f209 := f208.ext E20
      have f210 := F_ho.ext E2
      have f211 := f210.ext E5
      have f212 := f211.ext E9
      have f213 := f212.ext E14
      have f214 := f213.ext E20
      refine seg_p80c h0 h20 n0 a ch nm kd rq ds wn ro ho hv w_TEXT _ (X96.mono (by decide) (by decide)) hx hZs hZ20 hS20 (Nat.le_refl _) ⟨⟨_, Lt21⟩, ⟨_, Lt22⟩, ⟨_, Lt23⟩, ⟨_, Lt24⟩, ⟨_, Lt20⟩⟩ hw hby hml howns hown20 hnm hret hlk eq96 N96 f25 f164 f169 f174 f179 f184 f189 f194 f199 f204 fa f209 f214 hhv hrq hwn hT1 hT2 S_TEXT ?_
      intro h_ L_ vm_ K_ G0_ G1_ G2_ G3_ G4_ G5_ G6_ G7_ G8_ N_ W_
      have f215 := (Keep.refl h0 [a]).ext E2
      have f216 := f215.ext E5
      have f217 := f216.ext E9
      have f218 := f217.ext E14
      have f219 := f218.ext E20
      have f220 := f219.trans K_ (allS (Or.inl (List.mem_of_getElem? (i := 0) rfl)) all0)
      exact ⟨rfl, N_, f220, G0_, G1_, G2_, G3_, G4_, G5_, G6_, G7_, G8_, W_⟩
def Q_ini_ILw (Z : State) (a : Addr) (nm : Addr) (kd : Addr) (rq : Int32) (ds : Addr) (wn : Int32) (ro : Addr) (ho : Addr) (hv : Value) (w_TEXT : Addr) (ch : Addr) (ne : Int32) (h0 : Heap) (n0 : Nat) (v : Option Value) (h : Heap) (L : List Loc) (vm : Vm) : Prop := (v = none) ∧ (Fr n0 L) ∧ (Keep h0 h [a]) ∧ (Exa Z h a ks0) ∧ (Fld Z h a ks0 "name" ks13 (.ref nm)) ∧ (Fld Z h a ks0 "kind" ks5 (.ref kd)) ∧ (Fld Z h a ks0 ks23 "Z" (.int rq)) ∧ (Fld Z h a ks0 ks21 ks13 (.ref ds)) ∧ (Fld Z h a ks0 "choices" ks16 (.ref ch)) ∧ (Fld Z h a ks0 ks22 "Z" (.int wn)) ∧ (Fld Z h a ks0 "role" ks7 (.ref ro)) ∧ (Fld Z h a ks0 "header" ks15 (.ref ho)) ∧ (own_wm Z vm)
theorem rm_ini_ILw (l : Launch) (Z : State) (a0 : Array Value) (hw : own_HW a0 Z) (ws : List Jvm.Cond) (a : Addr) (nm : Addr) (kd : Addr) (rq : Int32) (ds : Addr) (wn : Int32) (ro : Addr) (ho : Addr) (hv : Value) (w_TEXT : Addr) (ch : Addr) (ne : Int32) (h0 : Heap) (n0 : Nat) (O0 : Old Z n0 h0) (PA0 : Exa Z h0 a ks0) (PA1 : Fld Z h0 a ks0 "name" ks13 .null) (PA2 : Fld Z h0 a ks0 "kind" ks5 .null) (PA3 : Fld Z h0 a ks0 ks23 "Z" (.int (0 : Int32))) (PA4 : Fld Z h0 a ks0 ks21 ks13 .null) (PA5 : Fld Z h0 a ks0 "choices" ks16 .null) (PA6 : Fld Z h0 a ks0 ks22 "Z" (.int (0 : Int32))) (PA7 : Fld Z h0 a ks0 "role" ks7 .null) (PA8 : Fld Z h0 a ks0 "header" ks15 .null) (fa : n0 ≤ a) (E_ho : Exa Z h0 ho ks14) (F_ho : Fld Z h0 ho ks14 "value" ks12 hv) (hhv : hv.isRef = true) (hrq : own_B rq) (hwn : own_B wn) (hT1 : ¬ wn = (0 : Int32) → kd = w_TEXT) (hT2 : ¬ own_pv hv = (0 : Int32) → kd = w_TEXT) (S_TEXT : Sta Z Z.heap ks9 "TEXT" ks5 (.ref w_TEXT)) (IL_ch : own_IL Z h0 ch ne) (hkt : ne = (0 : Int32) → kd = w_TEXT) :
    own_MV l own_m46 (Jvm.Cond.code own_m46 bc17 9 none :: ws) (rm4 9 0 0 160) #[(.ref a), (.ref nm), (.ref kd), (.int rq), (.ref ds), (.ref ch), (.int wn), (.ref ro), (.ref ho)] Z h0 (own_wm Z) (Q_ini_ILw Z a nm kd rq ds wn ro ho hv w_TEXT ch ne h0 n0) := by
  refine own_metV (own := ks0) (nme := "<init>") rfl rfl (plainFor_of_name pn_16) ?_
  intro p e s m below meth c s₁ hx hby hml hown hnm X0 e0 hret hlk hZ hS0 wm0
  have hZs := hZ
  have howns := hown
  have N0 := Fr.nil n0
  rw [ef_ini_IL m a nm kd rq ds ch wn ro ho]
  refine own_stV (T' := s₁) (g' := (mkF m 1 #[rv a, rv nm, rv kd, iv rq, rv ds, rv ch, iv wn, rv ro, rv ho] [(.ref a)])) (fun _ k_ => XS.aloadN X0.here hx rfl (hb hby d17_0) rfl rfl  k_) ?_
  refine own_kcI own_ckV X0 hx hZ hown hml (y := own_m44) rfl (wd hw 116 rfl) (wd hw 117 rfl) (wd hw 119 rfl) (wd hw 120 rfl) (by decide) (a := a) (rm_rec l Z a0 hw [] a h0 n0 O0) (by decide) (by decide) (W := 0) (Nat.le_of_eq rfl) (argsL := []) (rest := []) (lenOf pd___V rfl) rfl rfl (hb hby d17_1) rfl e0 (by decide) (by decide) (c' := 0) (s' := 0) rfl rfl (q := 4) rfl fun _ T1 L1 X1 hQ1 => ?_
  obtain ⟨rfl, Nq1, eq1⟩ := hQ1
  have N1 := Fr.app N0 Nq1
  show own_V p e below s _ _ _ T1 (mkF m 4 _ [])
  refine own_spV (q := 5) (S' := [(.ref nm)]) (fun _ k_ => XS.aloadN X1.here hx rfl (hb hby d17_4) rfl rfl  k_) ?_
  obtain ⟨a2, Lt2⟩ := wm0.1
  refine own_spV (q := 7) (S' := [(.ref a2), (.ref nm)]) (own_ldcA X1 hx hZ hown (wd hw 122 rfl) Lt2 (g := (mkF m 5 #[rv a, rv nm, rv kd, iv rq, rv ds, rv ch, iv wn, rv ro, rv ho] [(.ref nm)])) rfl (hb hby d17_5)) ?_
  refine own_kcS own_ckV X1 hx hZ hown hml (y := own_m36) (wd hw 125 rfl) (wd hw 126 rfl) (wd hw 127 rfl) (wd hw 128 rfl) (by decide) (rm_rnn2 l Z a0 hw [] nm a2 h0 n0 O0) (by decide) (by decide) (W := 0) (Nat.le_of_eq rfl) (argsL := [(.ref nm), (.ref a2)]) (rest := []) (lenOf pd__Ljava_lang_Object_Ljava_lang_String__Ljava_lang_Object_ rfl) rfl rfl (hb hby d17_7) rfl eq1 (by decide) (by decide) (c' := 0) (s' := 0) rfl rfl (q := 10) rfl fun _ T3 L3 X3 hQ3 => ?_
  obtain ⟨rfl, Nq3, eq3⟩ := hQ3
  have N3 := Fr.app N1 Nq3
  show own_V p e below s _ _ _ T3 (mkF m 10 _ [(.ref nm)])
  refine own_spV (q := 11) (S' := []) (fun _ k_ => XS.pop X3.here hx rfl (hb hby d17_10) rfl rfl k_) ?_
  refine own_spV (q := 12) (S' := [(.ref kd)]) (fun _ k_ => XS.aloadN X3.here hx rfl (hb hby d17_11) rfl rfl  k_) ?_
  obtain ⟨a4, Lt4⟩ := wm0.2.1
  refine own_spV (q := 14) (S' := [(.ref a4), (.ref kd)]) (own_ldcA X3 hx hZ hown (wd hw 129 rfl) Lt4 (g := (mkF m 12 #[rv a, rv nm, rv kd, iv rq, rv ds, rv ch, iv wn, rv ro, rv ho] [(.ref kd)])) rfl (hb hby d17_12)) ?_
  refine own_kcS own_ckV X3 hx hZ hown hml (y := own_m36) (wd hw 125 rfl) (wd hw 126 rfl) (wd hw 127 rfl) (wd hw 128 rfl) (by decide) (rm_rnn2 l Z a0 hw [] kd a4 h0 n0 O0) (by decide) (by decide) (W := 0) (Nat.le_of_eq rfl) (argsL := [(.ref kd), (.ref a4)]) (rest := []) (lenOf pd__Ljava_lang_Object_Ljava_lang_String__Ljava_lang_Object_ rfl) rfl rfl (hb hby d17_14) rfl eq3 (by decide) (by decide) (c' := 0) (s' := 0) rfl rfl (q := 17) rfl fun _ T5 L5 X5 hQ5 => ?_
  obtain ⟨rfl, Nq5, eq5⟩ := hQ5
  have N5 := Fr.app N3 Nq5
  show own_V p e below s _ _ _ T5 (mkF m 17 _ [(.ref kd)])
  refine own_spV (q := 18) (S' := []) (fun _ k_ => XS.pop X5.here hx rfl (hb hby d17_17) rfl rfl k_) ?_
  refine own_spV (q := 20) (S' := [(.ref ds)]) (fun _ k_ => XS.aload X5.here hx rfl (hb hby d17_18) rfl rfl  k_) ?_
  obtain ⟨a6, Lt6⟩ := wm0.2.2.1
  refine own_spV (q := 22) (S' := [(.ref a6), (.ref ds)]) (own_ldcA X5 hx hZ hown (wd hw 130 rfl) Lt6 (g := (mkF m 20 #[rv a, rv nm, rv kd, iv rq, rv ds, rv ch, iv wn, rv ro, rv ho] [(.ref ds)])) rfl (hb hby d17_20)) ?_
  refine own_kcS own_ckV X5 hx hZ hown hml (y := own_m36) (wd hw 125 rfl) (wd hw 126 rfl) (wd hw 127 rfl) (wd hw 128 rfl) (by decide) (rm_rnn2 l Z a0 hw [] ds a6 h0 n0 O0) (by decide) (by decide) (W := 0) (Nat.le_of_eq rfl) (argsL := [(.ref ds), (.ref a6)]) (rest := []) (lenOf pd__Ljava_lang_Object_Ljava_lang_String__Ljava_lang_Object_ rfl) rfl rfl (hb hby d17_22) rfl eq5 (by decide) (by decide) (c' := 0) (s' := 0) rfl rfl (q := 25) rfl fun _ T7 L7 X7 hQ7 => ?_
  obtain ⟨rfl, Nq7, eq7⟩ := hQ7
  have N7 := Fr.app N5 Nq7
  show own_V p e below s _ _ _ T7 (mkF m 25 _ [(.ref ds)])
  refine own_spV (q := 26) (S' := []) (fun _ k_ => XS.pop X7.here hx rfl (hb hby d17_25) rfl rfl k_) ?_
  refine own_spV (q := 28) (S' := [(.ref ro)]) (fun _ k_ => XS.aload X7.here hx rfl (hb hby d17_26) rfl rfl  k_) ?_
  obtain ⟨a8, Lt8⟩ := wm0.2.2.2.1
  refine own_spV (q := 30) (S' := [(.ref a8), (.ref ro)]) (own_ldcA X7 hx hZ hown (wd hw 131 rfl) Lt8 (g := (mkF m 28 #[rv a, rv nm, rv kd, iv rq, rv ds, rv ch, iv wn, rv ro, rv ho] [(.ref ro)])) rfl (hb hby d17_28)) ?_
  refine own_kcS own_ckV X7 hx hZ hown hml (y := own_m36) (wd hw 125 rfl) (wd hw 126 rfl) (wd hw 127 rfl) (wd hw 128 rfl) (by decide) (rm_rnn2 l Z a0 hw [] ro a8 h0 n0 O0) (by decide) (by decide) (W := 0) (Nat.le_of_eq rfl) (argsL := [(.ref ro), (.ref a8)]) (rest := []) (lenOf pd__Ljava_lang_Object_Ljava_lang_String__Ljava_lang_Object_ rfl) rfl rfl (hb hby d17_30) rfl eq7 (by decide) (by decide) (c' := 0) (s' := 0) rfl rfl (q := 33) rfl fun _ T9 L9 X9 hQ9 => ?_
  obtain ⟨rfl, Nq9, eq9⟩ := hQ9
  have N9 := Fr.app N7 Nq9
  show own_V p e below s _ _ _ T9 (mkF m 33 _ [(.ref ro)])
  refine own_spV (q := 34) (S' := []) (fun _ k_ => XS.pop X9.here hx rfl (hb hby d17_33) rfl rfl k_) ?_
  refine own_spV (q := 36) (S' := [(.ref ho)]) (fun _ k_ => XS.aload X9.here hx rfl (hb hby d17_34) rfl rfl  k_) ?_
  obtain ⟨a10, Lt10⟩ := wm0.2.2.2.2
  refine own_spV (q := 38) (S' := [(.ref a10), (.ref ho)]) (own_ldcA X9 hx hZ hown (wd hw 132 rfl) Lt10 (g := (mkF m 36 #[rv a, rv nm, rv kd, iv rq, rv ds, rv ch, iv wn, rv ro, rv ho] [(.ref ho)])) rfl (hb hby d17_36)) ?_
  refine own_kcS own_ckV X9 hx hZ hown hml (y := own_m36) (wd hw 125 rfl) (wd hw 126 rfl) (wd hw 127 rfl) (wd hw 128 rfl) (by decide) (rm_rnn2 l Z a0 hw [] ho a10 h0 n0 O0) (by decide) (by decide) (W := 0) (Nat.le_of_eq rfl) (argsL := [(.ref ho), (.ref a10)]) (rest := []) (lenOf pd__Ljava_lang_Object_Ljava_lang_String__Ljava_lang_Object_ rfl) rfl rfl (hb hby d17_38) rfl eq9 (by decide) (by decide) (c' := 0) (s' := 0) rfl rfl (q := 41) rfl fun _ T11 L11 X11 hQ11 => ?_
  obtain ⟨rfl, Nq11, eq11⟩ := hQ11
  have N11 := Fr.app N9 Nq11
  show own_V p e below s _ _ _ T11 (mkF m 41 _ [(.ref ho)])
  refine own_spV (q := 42) (S' := []) (fun _ k_ => XS.pop X11.here hx rfl (hb hby d17_41) rfl rfl k_) ?_
  refine own_spV (q := 44) (S' := [(.ref ch)]) (fun _ k_ => XS.aload X11.here hx rfl (hb hby d17_42) rfl rfl  k_) ?_
  refine own_kcS own_ckV X11 hx hZ hown hml (y := own_m32) (wd hw 133 rfl) (wd hw 134 rfl) (wd hw 103 rfl) (wd hw 135 rfl) (by decide) (rm_cpi l Z a0 hw [] ch ne h0 n0 O0 IL_ch) (by decide) (by decide) (W := 0) (Nat.le_of_eq rfl) (argsL := [(.ref ch)]) (rest := []) (lenOf pd__Ljava_util_Collection__Ljava_util_List_ rfl) rfl rfl (hb hby d17_44) rfl eq11 (by decide) (by decide) (c' := 0) (s' := 0) rfl rfl (q := 47) rfl fun _ T12 L12 X12 hQ12 => ?_
  obtain ⟨rfl, Nq12, eq12⟩ := hQ12
  have N12 := Fr.app N11 Nq12
  show own_V p e below s _ _ _ T12 (mkF m 47 _ [(.ref ch)])
  refine own_spV (q := 49) (S' := []) (fun _ k_ => XS.astore X12.here hx rfl (hb hby d17_47) rfl rfl (l' := #[rv a, rv nm, rv kd, iv rq, rv ds, rv ch, iv wn, rv ro, rv ho]) rfl k_) ?_
  refine own_spV (q := 51) (S' := [(.ref ch)]) (fun _ k_ => XS.aload X12.here hx rfl (hb hby d17_49) rfl rfl  k_) ?_
  rcases IL_ch with ⟨E_l, hne⟩ | ⟨E_l, F_n, uu, cl, F_e, A_u, hne⟩
  · refine own_kcF own_ckV X12 hx hZ hown hml (z := own_m45) (y := own_m34) (wd hw 151 rfl) (wd hw 152 rfl) (mvT hZ (wd hw 153 rfl)) (wd hw 404 rfl) (wd hw 405 rfl) (wd hw 406 rfl) (wd hw 407 rfl) (wd hw 408 rfl) (wd hw 390 rfl) (wd hw 409 rfl) (by decide) E_l (rm_iem12 l Z a0 hw [] ch h0 n0 O0) (by decide) (by decide) (W := 0) (Nat.le_of_eq rfl) (argsL := []) (rest := []) (lenOf pd___Z rfl) rfl rfl (hb hby d17_51) rfl eq12 (by decide) (by decide) (c' := 0) (s' := 0) rfl rfl (q := 56) rfl fun _ T13 L13 X13 hQ13 => ?_
    obtain ⟨rfl, Nq13, eq13⟩ := hQ13
    have N13 := Fr.app N12 Nq13
    show own_V p e below s _ _ _ T13 (mkF m 56 _ [(.int (0 : Int32))])
    refine own_spV (q := 59) (S' := []) (fun _ k_ => XS.ifNo X13.here hx rfl (hb hby d17_56) rfl ((if0 _ _).trans (teq (rfl : (0 : Int32) = (0 : Int32))).2) k_) ?_
    refine own_spV (q := 60) (S' := [(.ref kd)]) (fun _ k_ => XS.aloadN X13.here hx rfl (hb hby d17_59) rfl rfl  k_) ?_
    refine own_kgs own_ckV X13 hx hZ hown (host := "") (Or.inl (wd hw 358 rfl)) Via.refl eq13 (S_TEXT.ext O0.2) (hb hby d17_60) (q := 63) rfl fun T14 X14 e14 => ?_
    refine own_spV (q := 80) (S' := []) (fun _ k_ => Jvm.RoadKit.acmp (g := (mkF m 63 #[rv a, rv nm, rv kd, iv rq, rv ds, rv ch, iv wn, rv ro, rv ho] [(.ref w_TEXT), (.ref kd)])) X14 hx rfl rfl rfl (pc0 := 63) (pc' := 80) (same := true) rfl (hb hby d17_63) rfl (decide_eq_true (congrArg Value.ref ((hkt hne.symm) : kd = w_TEXT))) (by decide) (by decide) k_) ?_
    refine seg_p80w h0 h0 n0 a ch nm kd rq ds wn ro ho hv w_TEXT _ (X14.mono (by decide) (by decide)) hx hZs hZ hS0 (Nat.le_refl _) wm0 hw hby hml howns hown hnm hret hlk e14 N13 O0 PA0 PA1 PA2 PA3 PA4 PA5 PA6 PA7 PA8 fa E_ho F_ho hhv hrq hwn hT1 hT2 S_TEXT ?_
    intro h_ L_ vm_ K_ G0_ G1_ G2_ G3_ G4_ G5_ G6_ G7_ G8_ N_ W_
    have f15 := (Keep.refl h0 [a]).trans K_ (allS (Or.inl (List.mem_of_getElem? (i := 0) rfl)) all0)
    exact ⟨rfl, N_, f15, G0_, G1_, G2_, G3_, G4_, G5_, G6_, G7_, G8_, W_⟩
  · refine own_kcF own_ckV X12 hx hZ hown hml (z := own_m45) (y := own_m35) (wd hw 151 rfl) (wd hw 152 rfl) (mvT hZ (wd hw 153 rfl)) (wd hw 154 rfl) (wd hw 155 rfl) (wd hw 156 rfl) (wd hw 157 rfl) (wd hw 150 rfl) (wd hw 158 rfl) (wd hw 159 rfl) (by decide) E_l (rm_iemn l Z a0 hw [] ch uu cl h0 n0 O0 F_e A_u) (by decide) (by decide) (W := 0) (Nat.le_of_eq rfl) (argsL := []) (rest := []) (lenOf pd___Z rfl) rfl rfl (hb hby d17_51) rfl eq12 (by decide) (by decide) (c' := 0) (s' := 0) rfl rfl (q := 56) rfl fun _ T16 L16 X16 hQ16 => ?_
    obtain ⟨rfl, Nq16, eq16⟩ := hQ16
    have N16 := Fr.app N12 Nq16
    show own_V p e below s _ _ _ T16 (mkF m 56 _ [(.int (if cl.slots.size.toInt32 = 0 then (1 : Int32) else 0))])
    by_cases hc17 : (if cl.slots.size.toInt32 = 0 then (1 : Int32) else 0) = (0 : Int32)
    · refine own_spV (q := 59) (S' := []) (fun _ k_ => XS.ifNo X16.here hx rfl (hb hby d17_56) rfl ((if0 _ _).trans (teq hc17).2) k_) ?_
      refine own_spV (q := 60) (S' := [(.ref kd)]) (fun _ k_ => XS.aloadN X16.here hx rfl (hb hby d17_59) rfl rfl  k_) ?_
      refine own_kgs own_ckV X16 hx hZ hown (host := "") (Or.inl (wd hw 358 rfl)) Via.refl eq16 (S_TEXT.ext O0.2) (hb hby d17_60) (q := 63) rfl fun T18 X18 e18 => ?_
      refine own_spV (q := 80) (S' := []) (fun _ k_ => Jvm.RoadKit.acmp (g := (mkF m 63 #[rv a, rv nm, rv kd, iv rq, rv ds, rv ch, iv wn, rv ro, rv ho] [(.ref w_TEXT), (.ref kd)])) X18 hx rfl rfl rfl (pc0 := 63) (pc' := 80) (same := true) rfl (hb hby d17_63) rfl (decide_eq_true (congrArg Value.ref ((hkt (hne.symm.trans hc17)) : kd = w_TEXT))) (by decide) (by decide) k_) ?_
      refine seg_p80w h0 h0 n0 a ch nm kd rq ds wn ro ho hv w_TEXT _ (X18.mono (by decide) (by decide)) hx hZs hZ hS0 (Nat.le_refl _) wm0 hw hby hml howns hown hnm hret hlk e18 N16 O0 PA0 PA1 PA2 PA3 PA4 PA5 PA6 PA7 PA8 fa E_ho F_ho hhv hrq hwn hT1 hT2 S_TEXT ?_
      intro h_ L_ vm_ K_ G0_ G1_ G2_ G3_ G4_ G5_ G6_ G7_ G8_ N_ W_
      have f19 := (Keep.refl h0 [a]).trans K_ (allS (Or.inl (List.mem_of_getElem? (i := 0) rfl)) all0)
      exact ⟨rfl, N_, f19, G0_, G1_, G2_, G3_, G4_, G5_, G6_, G7_, G8_, W_⟩
    · refine own_spV (q := 80) (S' := []) (fun _ k_ => XS.ifYes X16.here hx rfl (pc0 := 56) (pc' := 80) rfl (hb hby d17_56) rfl ((if0 _ _).trans (feq hc17).2) (by decide) (by decide) k_) ?_
      refine seg_p80w h0 h0 n0 a ch nm kd rq ds wn ro ho hv w_TEXT _ (X16.mono (by decide) (by decide)) hx hZs hZ hS0 (Nat.le_refl _) wm0 hw hby hml howns hown hnm hret hlk eq16 N16 O0 PA0 PA1 PA2 PA3 PA4 PA5 PA6 PA7 PA8 fa E_ho F_ho hhv hrq hwn hT1 hT2 S_TEXT ?_
      intro h_ L_ vm_ K_ G0_ G1_ G2_ G3_ G4_ G5_ G6_ G7_ G8_ N_ W_
      have f20 := (Keep.refl h0 [a]).trans K_ (allS (Or.inl (List.mem_of_getElem? (i := 0) rfl)) all0)
      exact ⟨rfl, N_, f20, G0_, G1_, G2_, G3_, G4_, G5_, G6_, G7_, G8_, W_⟩
def Q_ini_AL (Z : State) (a : Addr) (nm : Addr) (kd : Addr) (rq : Int32) (ds : Addr) (wn : Int32) (ro : Addr) (ho : Addr) (hv : Value) (w_TEXT : Addr) (ch : Addr) (LQ : Nat → Heap → Addr → Prop) (h0 : Heap) (n0 : Nat) (v : Option Value) (h : Heap) (L : List Loc) (vm : Vm) : Prop := ∃ (x : Addr), (v = none) ∧ (Fr n0 L) ∧ (Keep h0 h [a]) ∧ (Exa Z h a ks0) ∧ (Fld Z h a ks0 "name" ks13 (.ref nm)) ∧ (Fld Z h a ks0 "kind" ks5 (.ref kd)) ∧ (Fld Z h a ks0 ks23 "Z" (.int rq)) ∧ (Fld Z h a ks0 ks21 ks13 (.ref ds)) ∧ (Fld Z h a ks0 "choices" ks16 (.ref x)) ∧ (Fld Z h a ks0 ks22 "Z" (.int wn)) ∧ (Fld Z h a ks0 "role" ks7 (.ref ro)) ∧ (Fld Z h a ks0 "header" ks15 (.ref ho)) ∧ (LQ h0.size h x) ∧ (own_wm Z vm)
theorem rm_ini_AL (l : Launch) (Z : State) (a0 : Array Value) (hw : own_HW a0 Z) (ws : List Jvm.Cond) (a : Addr) (nm : Addr) (kd : Addr) (rq : Int32) (ds : Addr) (wn : Int32) (ro : Addr) (ho : Addr) (hv : Value) (w_TEXT : Addr) (ch : Addr) (LQ : Nat → Heap → Addr → Prop) (h0 : Heap) (n0 : Nat) (O0 : Old Z n0 h0) (PA0 : Exa Z h0 a ks0) (PA1 : Fld Z h0 a ks0 "name" ks13 .null) (PA2 : Fld Z h0 a ks0 "kind" ks5 .null) (PA3 : Fld Z h0 a ks0 ks23 "Z" (.int (0 : Int32))) (PA4 : Fld Z h0 a ks0 ks21 ks13 .null) (PA5 : Fld Z h0 a ks0 "choices" ks16 .null) (PA6 : Fld Z h0 a ks0 ks22 "Z" (.int (0 : Int32))) (PA7 : Fld Z h0 a ks0 "role" ks7 .null) (PA8 : Fld Z h0 a ks0 "header" ks15 .null) (fa : n0 ≤ a) (E_ho : Exa Z h0 ho ks14) (F_ho : Fld Z h0 ho ks14 "value" ks12 hv) (hhv : hv.isRef = true) (hrq : own_B rq) (hwn : own_B wn) (hT1 : ¬ wn = (0 : Int32) → kd = w_TEXT) (hT2 : ¬ own_pv hv = (0 : Int32) → kd = w_TEXT) (S_TEXT : Sta Z Z.heap ks9 "TEXT" ks5 (.ref w_TEXT)) (hk1 : kd = w_TEXT) (CPG : ∀ h1, Ext h0 h1 → Old Z n0 h1 → own_MF l own_m32 [Jvm.Cond.code own_m32 bc20 1 (some (.object ks18))] (rm4 8 3 8 130) #[.ref ch] Z h1 (fun v h L => ∃ x, (v = some (.ref x)) ∧ (Fr n0 L) ∧ (Keep h1 h []) ∧ (LQ h1.size h x) ∧ (own_IL Z h x (0 : Int32)) ∧ (h1.size ≤ x))) (hLQ : (∀ N h h' x w, LQ N h x → w < N → Keep h h' [w] → LQ N h' x) ∧ (∀ N N' h x, N ≤ N' → LQ N' h x → LQ N h x)) :
    own_MV l own_m46 (Jvm.Cond.code own_m46 bc17 9 none :: ws) (rm4 9 13 310 160) #[(.ref a), (.ref nm), (.ref kd), (.int rq), (.ref ds), (.ref ch), (.int wn), (.ref ro), (.ref ho)] Z h0 (fun _ => True) (Q_ini_AL Z a nm kd rq ds wn ro ho hv w_TEXT ch LQ h0 n0) := by
  refine own_metV (own := ks0) (nme := "<init>") rfl rfl (plainFor_of_name pn_16) ?_
  intro p e s m below meth c s₁ hx hby hml hown hnm X0 e0 hret hlk hZ hS0 wm0
  have hZs := hZ
  have howns := hown
  have N0 := Fr.nil n0
  rw [ef_ini_IL m a nm kd rq ds ch wn ro ho]
  refine own_stV (T' := s₁) (g' := (mkF m 1 #[rv a, rv nm, rv kd, iv rq, rv ds, rv ch, iv wn, rv ro, rv ho] [(.ref a)])) (fun _ k_ => XS.aloadN X0.here hx rfl (hb hby d17_0) rfl rfl  k_) ?_
  refine own_kcI own_ckV X0 hx hZ hown hml (y := own_m44) rfl (wd hw 116 rfl) (wd hw 117 rfl) (wd hw 119 rfl) (wd hw 120 rfl) (by decide) (a := a) (rm_rec l Z a0 hw [] a h0 n0 O0) (by decide) (by decide) (W := 0) (Nat.le_of_eq rfl) (argsL := []) (rest := []) (lenOf pd___V rfl) rfl rfl (hb hby d17_1) rfl e0 (by decide) (by decide) (c' := 0) (s' := 0) rfl rfl (q := 4) rfl fun _ T1 L1 X1 hQ1 => ?_
  obtain ⟨rfl, Nq1, eq1⟩ := hQ1
  have N1 := Fr.app N0 Nq1
  show own_V p e below s _ _ _ T1 (mkF m 4 _ [])
  refine own_spV (q := 5) (S' := [(.ref nm)]) (fun _ k_ => XS.aloadN X1.here hx rfl (hb hby d17_4) rfl rfl  k_) ?_
  obtain ⟨a2, T2, h2, X2, e2, E2, hS2, hZ2, hown2, hW2, Lt2, st2⟩ := own_ldcV X1 hx hZ hown (wd hw 122 rfl) (own_wS hw) eq1 hS0 (Nat.le_refl _) (g := (mkF m 5 #[rv a, rv nm, rv kd, iv rq, rv ds, rv ch, iv wn, rv ro, rv ho] [(.ref nm)])) rfl (hb hby d17_5) (n := 48) (by decide) (by decide) (by decide) (by decide)
  refine own_spV (q := 7) (S' := [(.ref a2), (.ref nm)]) st2 ?_
  clear st2
  have f3 := O0.ext E2
  refine own_kcS own_ckV X2 hx hZ2 hown2 hml (y := own_m36) (wd hw 125 rfl) (wd hw 126 rfl) (wd hw 127 rfl) (wd hw 128 rfl) (by decide) (rm_rnn2 l Z a0 hw [] nm a2 h2 n0 f3) (by decide) (by decide) (W := 0) (Nat.le_of_eq rfl) (argsL := [(.ref nm), (.ref a2)]) (rest := []) (lenOf pd__Ljava_lang_Object_Ljava_lang_String__Ljava_lang_Object_ rfl) rfl rfl (hb hby d17_7) rfl e2 (by decide) (by decide) (c' := 2) (s' := 52) rfl rfl (q := 10) rfl fun _ T4 L4 X4 hQ4 => ?_
  obtain ⟨rfl, Nq4, eq4⟩ := hQ4
  have N4 := Fr.app N1 Nq4
  show own_V p e below s _ _ _ T4 (mkF m 10 _ [(.ref nm)])
  refine own_spV (q := 11) (S' := []) (fun _ k_ => XS.pop X4.here hx rfl (hb hby d17_10) rfl rfl k_) ?_
  refine own_spV (q := 12) (S' := [(.ref kd)]) (fun _ k_ => XS.aloadN X4.here hx rfl (hb hby d17_11) rfl rfl  k_) ?_
  obtain ⟨a5, T5, h5, X5, e5, E5, hS5, hZ5, hown5, hW5, Lt5, st5⟩ := own_ldcV X4 hx hZ2 hown2 (wd hw 129 rfl) (own_wS hw) eq4 hS2 (Nat.le_refl _) (g := (mkF m 12 #[rv a, rv nm, rv kd, iv rq, rv ds, rv ch, iv wn, rv ro, rv ho] [(.ref kd)])) rfl (hb hby d17_12) (n := 48) (by decide) (by decide) (by decide) (by decide)
  have Lt6 := Lit.stays (s := Z) Lt2 hW5
  refine own_spV (q := 14) (S' := [(.ref a5), (.ref kd)]) st5 ?_
  clear st5
  have f7 := f3.ext E5
  refine own_kcS own_ckV X5 hx hZ5 hown5 hml (y := own_m36) (wd hw 125 rfl) (wd hw 126 rfl) (wd hw 127 rfl) (wd hw 128 rfl) (by decide) (rm_rnn2 l Z a0 hw [] kd a5 h5 n0 f7) (by decide) (by decide) (W := 0) (Nat.le_of_eq rfl) (argsL := [(.ref kd), (.ref a5)]) (rest := []) (lenOf pd__Ljava_lang_Object_Ljava_lang_String__Ljava_lang_Object_ rfl) rfl rfl (hb hby d17_14) rfl e5 (by decide) (by decide) (c' := 4) (s' := 104) rfl rfl (q := 17) rfl fun _ T8 L8 X8 hQ8 => ?_
  obtain ⟨rfl, Nq8, eq8⟩ := hQ8
  have N8 := Fr.app N4 Nq8
  show own_V p e below s _ _ _ T8 (mkF m 17 _ [(.ref kd)])
  refine own_spV (q := 18) (S' := []) (fun _ k_ => XS.pop X8.here hx rfl (hb hby d17_17) rfl rfl k_) ?_
  refine own_spV (q := 20) (S' := [(.ref ds)]) (fun _ k_ => XS.aload X8.here hx rfl (hb hby d17_18) rfl rfl  k_) ?_
  obtain ⟨a9, T9, h9, X9, e9, E9, hS9, hZ9, hown9, hW9, Lt9, st9⟩ := own_ldcV X8 hx hZ5 hown5 (wd hw 130 rfl) (own_wS hw) eq8 hS5 (Nat.le_refl _) (g := (mkF m 20 #[rv a, rv nm, rv kd, iv rq, rv ds, rv ch, iv wn, rv ro, rv ho] [(.ref ds)])) rfl (hb hby d17_20) (n := 76) (by decide) (by decide) (by decide) (by decide)
  have Lt10 := Lit.stays (s := Z) Lt6 hW9
  have Lt11 := Lit.stays (s := Z) Lt5 hW9
  refine own_spV (q := 22) (S' := [(.ref a9), (.ref ds)]) st9 ?_
  clear st9
  have f12 := f7.ext E9
  refine own_kcS own_ckV X9 hx hZ9 hown9 hml (y := own_m36) (wd hw 125 rfl) (wd hw 126 rfl) (wd hw 127 rfl) (wd hw 128 rfl) (by decide) (rm_rnn2 l Z a0 hw [] ds a9 h9 n0 f12) (by decide) (by decide) (W := 0) (Nat.le_of_eq rfl) (argsL := [(.ref ds), (.ref a9)]) (rest := []) (lenOf pd__Ljava_lang_Object_Ljava_lang_String__Ljava_lang_Object_ rfl) rfl rfl (hb hby d17_22) rfl e9 (by decide) (by decide) (c' := 6) (s' := 184) rfl rfl (q := 25) rfl fun _ T13 L13 X13 hQ13 => ?_
  obtain ⟨rfl, Nq13, eq13⟩ := hQ13
  have N13 := Fr.app N8 Nq13
  show own_V p e below s _ _ _ T13 (mkF m 25 _ [(.ref ds)])
  refine own_spV (q := 26) (S' := []) (fun _ k_ => XS.pop X13.here hx rfl (hb hby d17_25) rfl rfl k_) ?_
  refine own_spV (q := 28) (S' := [(.ref ro)]) (fun _ k_ => XS.aload X13.here hx rfl (hb hby d17_26) rfl rfl  k_) ?_
  obtain ⟨a14, T14, h14, X14, e14, E14, hS14, hZ14, hown14, hW14, Lt14, st14⟩ := own_ldcV X13 hx hZ9 hown9 (wd hw 131 rfl) (own_wS hw) eq13 hS9 (Nat.le_refl _) (g := (mkF m 28 #[rv a, rv nm, rv kd, iv rq, rv ds, rv ch, iv wn, rv ro, rv ho] [(.ref ro)])) rfl (hb hby d17_28) (n := 48) (by decide) (by decide) (by decide) (by decide)
  have Lt15 := Lit.stays (s := Z) Lt10 hW14
  have Lt16 := Lit.stays (s := Z) Lt11 hW14
  have Lt17 := Lit.stays (s := Z) Lt9 hW14
  refine own_spV (q := 30) (S' := [(.ref a14), (.ref ro)]) st14 ?_
  clear st14
  have f18 := f12.ext E14
  refine own_kcS own_ckV X14 hx hZ14 hown14 hml (y := own_m36) (wd hw 125 rfl) (wd hw 126 rfl) (wd hw 127 rfl) (wd hw 128 rfl) (by decide) (rm_rnn2 l Z a0 hw [] ro a14 h14 n0 f18) (by decide) (by decide) (W := 0) (Nat.le_of_eq rfl) (argsL := [(.ref ro), (.ref a14)]) (rest := []) (lenOf pd__Ljava_lang_Object_Ljava_lang_String__Ljava_lang_Object_ rfl) rfl rfl (hb hby d17_30) rfl e14 (by decide) (by decide) (c' := 8) (s' := 236) rfl rfl (q := 33) rfl fun _ T19 L19 X19 hQ19 => ?_
  obtain ⟨rfl, Nq19, eq19⟩ := hQ19
  have N19 := Fr.app N13 Nq19
  show own_V p e below s _ _ _ T19 (mkF m 33 _ [(.ref ro)])
  refine own_spV (q := 34) (S' := []) (fun _ k_ => XS.pop X19.here hx rfl (hb hby d17_33) rfl rfl k_) ?_
  refine own_spV (q := 36) (S' := [(.ref ho)]) (fun _ k_ => XS.aload X19.here hx rfl (hb hby d17_34) rfl rfl  k_) ?_
  obtain ⟨a20, T20, h20, X20, e20, E20, hS20, hZ20, hown20, hW20, Lt20, st20⟩ := own_ldcV X19 hx hZ14 hown14 (wd hw 132 rfl) (own_wS hw) eq19 hS14 (Nat.le_refl _) (g := (mkF m 36 #[rv a, rv nm, rv kd, iv rq, rv ds, rv ch, iv wn, rv ro, rv ho] [(.ref ho)])) rfl (hb hby d17_36) (n := 56) (by decide) (by decide) (by decide) (by decide)
  have Lt21 := Lit.stays (s := Z) Lt15 hW20
  have Lt22 := Lit.stays (s := Z) Lt16 hW20
  have Lt23 := Lit.stays (s := Z) Lt17 hW20
  have Lt24 := Lit.stays (s := Z) Lt14 hW20
  refine own_spV (q := 38) (S' := [(.ref a20), (.ref ho)]) st20 ?_
  clear st20
  have f25 := f18.ext E20
  refine own_kcS own_ckV X20 hx hZ20 hown20 hml (y := own_m36) (wd hw 125 rfl) (wd hw 126 rfl) (wd hw 127 rfl) (wd hw 128 rfl) (by decide) (rm_rnn2 l Z a0 hw [] ho a20 h20 n0 f25) (by decide) (by decide) (W := 0) (Nat.le_of_eq rfl) (argsL := [(.ref ho), (.ref a20)]) (rest := []) (lenOf pd__Ljava_lang_Object_Ljava_lang_String__Ljava_lang_Object_ rfl) rfl rfl (hb hby d17_38) rfl e20 (by decide) (by decide) (c' := 10) (s' := 296) rfl rfl (q := 41) rfl fun _ T26 L26 X26 hQ26 => ?_
  obtain ⟨rfl, Nq26, eq26⟩ := hQ26
  have N26 := Fr.app N19 Nq26
  show own_V p e below s _ _ _ T26 (mkF m 41 _ [(.ref ho)])
  refine own_spV (q := 42) (S' := []) (fun _ k_ => XS.pop X26.here hx rfl (hb hby d17_41) rfl rfl k_) ?_
  refine own_spV (q := 44) (S' := [(.ref ch)]) (fun _ k_ => XS.aload X26.here hx rfl (hb hby d17_42) rfl rfl  k_) ?_
  have f27 := own_extT (own_extR h0) E2
  have f28 := own_extT f27 E5
  have f29 := own_extT f28 E9
  have f30 := own_extT f29 E14
  have f31 := own_extT f30 E20
  have f32 := (Keep.refl h0 [a]).ext E2
  have f33 := f32.ext E5
  have f34 := f33.ext E9
  have f35 := f34.ext E14
  have f36 := f35.ext E20
  refine own_kcS own_ckV X26 hx hZ20 hown20 hml (y := own_m32) (wd hw 133 rfl) (wd hw 134 rfl) (wd hw 103 rfl) (wd hw 135 rfl) (by decide) (CPG _ f31 f25) (by decide) (by decide) (W := 0) (Nat.le_of_eq rfl) (argsL := [(.ref ch)]) (rest := []) (lenOf pd__Ljava_util_Collection__Ljava_util_List_ rfl) rfl rfl (hb hby d17_44) rfl eq26 (by decide) (by decide) (c' := 13) (s' := 304) rfl rfl (q := 47) rfl fun _ T37 L37 X37 hQ37 => ?_
  obtain ⟨x37, rfl, Nq37, K37, LQ37, IL37, fx37⟩ := hQ37
  have N37 := Fr.app N26 Nq37
  show own_V p e below s _ _ _ T37 (mkF m 47 _ [(.ref x37)])
  refine own_stV (T' := T37) (g' := (mkF m 49 #[rv a, rv nm, rv kd, iv rq, rv ds, rv x37, iv wn, rv ro, rv ho] [])) (fun _ k_ => XS.astore X37.here hx rfl (hb hby d17_47) rfl rfl (l' := #[rv a, rv nm, rv kd, iv rq, rv ds, rv x37, iv wn, rv ro, rv ho]) rfl k_) ?_
  refine own_spV (q := 51) (S' := [(.ref x37)]) (fun _ k_ => XS.aload X37.here hx rfl (hb hby d17_49) rfl rfl  k_) ?_
  rcases IL37 with ⟨E_l, hne⟩ | ⟨E_l, F_n, uu, cl, F_e, A_u, hne⟩
  · have f38 := f25.keep K37 all0
    refine own_kcF own_ckV X37 hx hZ20 hown20 hml (z := own_m45) (y := own_m34) (wd hw 151 rfl) (wd hw 152 rfl) (mvT hZ20 (wd hw 153 rfl)) (wd hw 404 rfl) (wd hw 405 rfl) (wd hw 406 rfl) (wd hw 407 rfl) (wd hw 408 rfl) (wd hw 390 rfl) (wd hw 409 rfl) (by decide) E_l (rm_iem12 l Z a0 hw [] x37 T37.heap n0 f38) (by decide) (by decide) (W := 0) (Nat.le_of_eq rfl) (argsL := []) (rest := []) (lenOf pd___Z rfl) rfl rfl (hb hby d17_51) rfl rfl (by decide) (by decide) (c' := 13) (s' := 304) rfl rfl (q := 56) rfl fun _ T39 L39 X39 hQ39 => ?_
    obtain ⟨rfl, Nq39, eq39⟩ := hQ39
    have N39 := Fr.app N37 Nq39
    show own_V p e below s _ _ _ T39 (mkF m 56 _ [(.int (0 : Int32))])
    refine own_spV (q := 59) (S' := []) (fun _ k_ => XS.ifNo X39.here hx rfl (hb hby d17_56) rfl ((if0 _ _).trans (teq (rfl : (0 : Int32) = (0 : Int32))).2) k_) ?_
    refine own_spV (q := 60) (S' := [(.ref kd)]) (fun _ k_ => XS.aloadN X39.here hx rfl (hb hby d17_59) rfl rfl  k_) ?_
    refine own_kgs own_ckV X39 hx hZ20 hown20 (host := "") (Or.inl (wd hw 358 rfl)) Via.refl eq39 (S_TEXT.ext f38.2) (hb hby d17_60) (q := 63) rfl fun T40 X40 e40 => ?_
    refine own_spV (q := 80) (S' := []) (fun _ k_ => Jvm.RoadKit.acmp (g := (mkF m 63 #[rv a, rv nm, rv kd, iv rq, rv ds, rv x37, iv wn, rv ro, rv ho] [(.ref w_TEXT), (.ref kd)])) X40 hx rfl rfl rfl (pc0 := 63) (pc' := 80) (same := true) rfl (hb hby d17_63) rfl (decide_eq_true (congrArg Value.ref (hk1 : kd = w_TEXT))) (by decide) (by decide) k_) ?_
    have f41 := PA0.ext E2
    have f42 := f41.ext E5
    have f43 := f42.ext E9
    have f44 := f43.ext E14
    have f45 := f44.ext E20
    have f46 := f45.keep K37
    have f47 := PA1.ext E2
    have f48 := f47.ext E5
    have f49 := f48.ext E9
    have f50 := f49.ext E14
    have f51 := f50.ext E20
    have f52 := f51.keep K37 nin0
    have f53 := PA2.ext E2
    have f54 := f53.ext E5
    have f55 := f54.ext E9
    have f56 := f55.ext E14
    have f57 := f56.ext E20
    have f58 := f57.keep K37 nin0
    have f59 := PA3.ext E2
    have f60 := f59.ext E5
    have f61 := f60.ext E9
    have f62 := f61.ext E14
    have f63 := f62.ext E20
    have f64 := f63.keep K37 nin0
    have f65 := PA4.ext E2
    have f66 := f65.ext E5
    have f67 := f66.ext E9
    have f68 := f67.ext E14
    have f69 := f68.ext E20
    have f70 := f69.keep K37 nin0
    have f71 := PA5.ext E2
    have f72 := f71.ext E5
    have f73 := f72.ext E9
    have f74 := f73.ext E14
    have f75 := f74.ext E20
    have f76 := f75.keep K37 nin0
    have f77 := PA6.ext E2
    have f78 := f77.ext E5
    have f79 := f78.ext E9
    have f80 := f79.ext E14
    have f81 := f80.ext E20
    have f82 := f81.keep K37 nin0
    have f83 := PA7.ext E2
    have f84 := f83.ext E5
    have f85 := f84.ext E9
    have f86 := f85.ext E14
    have f87 := f86.ext E20
    have f88 := f87.keep K37 nin0
    have f89 := PA8.ext E2
    have f90 := f89.ext E5
    have f91 := f90.ext E9
    have f92 := f91.ext E14
    have f93 := f92.ext E20
    have f94 := f93.keep K37 nin0
    have f95 := E_ho.ext E2
    have f96 := f95.ext E5
    have f97 := f96.ext E9
    have f98 := f97.ext E14
    have f99 := f98.ext E20
    have f100 := f99.keep K37
    have f101 := F_ho.ext E2
    have f102 := f101.ext E5
    have f103 := f102.ext E9
    have f104 := f103.ext E14
    have f105 := f104.ext E20
    have f106 := f105.keep K37 nin0
    refine seg_p80a h0 T37.heap n0 a x37 nm kd rq ds wn ro ho hv w_TEXT _ (X40.mono (by decide) (by decide)) hx hZs hZ20 hS20 (Nat.le_trans (Nat.le_refl _) K37.1) ⟨⟨_, Lt21⟩, ⟨_, Lt22⟩, ⟨_, Lt23⟩, ⟨_, Lt24⟩, ⟨_, Lt20⟩⟩ hw hby hml howns hown20 hnm hret hlk e40 N39 f38 f46 f52 f58 f64 f70 f76 f82 f88 f94 fa f100 f106 hhv hrq hwn hT1 hT2 S_TEXT ?_
    intro h_ L_ vm_ K_ G0_ G1_ G2_ G3_ G4_ G5_ G6_ G7_ G8_ N_ W_
    have f107 := f36.trans K37 all0
    have f108 := f107.trans K_ (allS (Or.inl (List.mem_of_getElem? (i := 0) rfl)) all0)
    exact ⟨x37, rfl, N_, f108, G0_, G1_, G2_, G3_, G4_, G5_, G6_, G7_, G8_, hLQ.2 _ _ _ _ f31.1 (hLQ.1 _ _ _ _ _ LQ37 (Nat.lt_of_lt_of_le (Nat.lt_of_lt_of_le (Nat.lt_of_lt_of_le (Nat.lt_of_lt_of_le (Nat.lt_of_lt_of_le PA0.lt E2.1) E5.1) E9.1) E14.1) E20.1) K_), W_⟩
  · have f109 := f25.keep K37 all0
    refine own_kcF own_ckV X37 hx hZ20 hown20 hml (z := own_m45) (y := own_m35) (wd hw 151 rfl) (wd hw 152 rfl) (mvT hZ20 (wd hw 153 rfl)) (wd hw 154 rfl) (wd hw 155 rfl) (wd hw 156 rfl) (wd hw 157 rfl) (wd hw 150 rfl) (wd hw 158 rfl) (wd hw 159 rfl) (by decide) E_l (rm_iemn l Z a0 hw [] x37 uu cl T37.heap n0 f109 F_e A_u) (by decide) (by decide) (W := 0) (Nat.le_of_eq rfl) (argsL := []) (rest := []) (lenOf pd___Z rfl) rfl rfl (hb hby d17_51) rfl rfl (by decide) (by decide) (c' := 13) (s' := 304) rfl rfl (q := 56) rfl fun _ T110 L110 X110 hQ110 => ?_
    obtain ⟨rfl, Nq110, eq110⟩ := hQ110
    have N110 := Fr.app N37 Nq110
    show own_V p e below s _ _ _ T110 (mkF m 56 _ [(.int (if cl.slots.size.toInt32 = 0 then (1 : Int32) else 0))])
    refine own_spV (q := 59) (S' := []) (fun _ k_ => XS.ifNo X110.here hx rfl (hb hby d17_56) rfl ((if0 _ _).trans (teq (hne : (if cl.slots.size.toInt32 = 0 then (1 : Int32) else 0) = (0 : Int32))).2) k_) ?_
    refine own_spV (q := 60) (S' := [(.ref kd)]) (fun _ k_ => XS.aloadN X110.here hx rfl (hb hby d17_59) rfl rfl  k_) ?_
    refine own_kgs own_ckV X110 hx hZ20 hown20 (host := "") (Or.inl (wd hw 358 rfl)) Via.refl eq110 (S_TEXT.ext f109.2) (hb hby d17_60) (q := 63) rfl fun T111 X111 e111 => ?_
    refine own_spV (q := 80) (S' := []) (fun _ k_ => Jvm.RoadKit.acmp (g := (mkF m 63 #[rv a, rv nm, rv kd, iv rq, rv ds, rv x37, iv wn, rv ro, rv ho] [(.ref w_TEXT), (.ref kd)])) X111 hx rfl rfl rfl (pc0 := 63) (pc' := 80) (same := true) rfl (hb hby d17_63) rfl (decide_eq_true (congrArg Value.ref (hk1 : kd = w_TEXT))) (by decide) (by decide) k_) ?_
    have f112 := PA0.ext E2
    have f113 := f112.ext E5
    have f114 := f113.ext E9
    have f115 := f114.ext E14
    have f116 := f115.ext E20
    have f117 := f116.keep K37
    have f118 := PA1.ext E2
    have f119 := f118.ext E5
    have f120 := f119.ext E9
    have f121 := f120.ext E14
    have f122 := f121.ext E20
    have f123 := f122.keep K37 nin0
    have f124 := PA2.ext E2
    have f125 := f124.ext E5
    have f126 := f125.ext E9
    have f127 := f126.ext E14
    have f128 := f127.ext E20
    have f129 := f128.keep K37 nin0
    have f130 := PA3.ext E2
    have f131 := f130.ext E5
    have f132 := f131.ext E9
    have f133 := f132.ext E14
    have f134 := f133.ext E20
    have f135 := f134.keep K37 nin0
    have f136 := PA4.ext E2
    have f137 := f136.ext E5
    have f138 := f137.ext E9
    have f139 := f138.ext E14
    have f140 := f139.ext E20
    have f141 := f140.keep K37 nin0
    have f142 := PA5.ext E2
    have f143 := f142.ext E5
    have f144 := f143.ext E9
    have f145 := f144.ext E14
    have f146 := f145.ext E20
    have f147 := f146.keep K37 nin0
    have f148 := PA6.ext E2
    have f149 := f148.ext E5
    have f150 := f149.ext E9
    have f151 := f150.ext E14
    have f152 := f151.ext E20
    have f153 := f152.keep K37 nin0
    have f154 := PA7.ext E2
    have f155 := f154.ext E5
    have f156 := f155.ext E9
    have f157 := f156.ext E14
    have f158 := f157.ext E20
    have f159 := f158.keep K37 nin0
    have f160 := PA8.ext E2
    have f161 := f160.ext E5
    have f162 := f161.ext E9
    have f163 := f162.ext E14
    have f164 := f163.ext E20
    have f165 := f164.keep K37 nin0
    have f166 := E_ho.ext E2
    have f167 := f166.ext E5
    have f168 := f167.ext E9
    have f169 := f168.ext E14
    have f170 := f169.ext E20
    have f171 := f170.keep K37
    have f172 := F_ho.ext E2
    have f173 := f172.ext E5
    have f174 := f173.ext E9
    have f175 := f174.ext E14
    have f176 := f175.ext E20
    have f177 := f176.keep K37 nin0
    refine seg_p80a h0 T37.heap n0 a x37 nm kd rq ds wn ro ho hv w_TEXT _ (X111.mono (by decide) (by decide)) hx hZs hZ20 hS20 (Nat.le_trans (Nat.le_refl _) K37.1) ⟨⟨_, Lt21⟩, ⟨_, Lt22⟩, ⟨_, Lt23⟩, ⟨_, Lt24⟩, ⟨_, Lt20⟩⟩ hw hby hml howns hown20 hnm hret hlk e111 N110 f109 f117 f123 f129 f135 f141 f147 f153 f159 f165 fa f171 f177 hhv hrq hwn hT1 hT2 S_TEXT ?_
    intro h_ L_ vm_ K_ G0_ G1_ G2_ G3_ G4_ G5_ G6_ G7_ G8_ N_ W_
    have f178 := f36.trans K37 all0
    have f179 := f178.trans K_ (allS (Or.inl (List.mem_of_getElem? (i := 0) rfl)) all0)
    exact ⟨x37, rfl, N_, f179, G0_, G1_, G2_, G3_, G4_, G5_, G6_, G7_, G8_, hLQ.2 _ _ _ _ f31.1 (hLQ.1 _ _ _ _ _ LQ37 (Nat.lt_of_lt_of_le (Nat.lt_of_lt_of_le (Nat.lt_of_lt_of_le (Nat.lt_of_lt_of_le (Nat.lt_of_lt_of_le PA0.lt E2.1) E5.1) E9.1) E14.1) E20.1) K_), W_⟩
theorem d24_0 : own_D bc24 0 (.new 56) 3 := by decide +kernel
theorem d24_3 : own_D bc24 3 (.dup) 1 := by decide +kernel
theorem d24_4 : own_D bc24 4 (.aload_n 0) 1 := by decide +kernel
theorem d24_5 : own_D bc24 5 (.getfield 55) 3 := by decide +kernel
theorem d24_8 : own_D bc24 8 (.aload_n 0) 1 := by decide +kernel
theorem d24_9 : own_D bc24 9 (.getfield 61) 3 := by decide +kernel
theorem d24_12 : own_D bc24 12 (.aload_n 0) 1 := by decide +kernel
theorem d24_13 : own_D bc24 13 (.getfield 64) 3 := by decide +kernel
theorem d24_16 : own_D bc24 16 (.aload_n 0) 1 := by decide +kernel
theorem d24_17 : own_D bc24 17 (.getfield 68) 3 := by decide +kernel
theorem d24_20 : own_D bc24 20 (.aload_n 0) 1 := by decide +kernel
theorem d24_21 : own_D bc24 21 (.getfield 71) 3 := by decide +kernel
theorem d24_24 : own_D bc24 24 (.aload_n 0) 1 := by decide +kernel
theorem d24_25 : own_D bc24 25 (.getfield 75) 3 := by decide +kernel
theorem d24_28 : own_D bc24 28 (.aload_n 1) 1 := by decide +kernel
theorem d24_29 : own_D bc24 29 (.aload_n 0) 1 := by decide +kernel
theorem d24_30 : own_D bc24 30 (.getfield 82) 3 := by decide +kernel
theorem d24_33 : own_D bc24 33 (.invokespecial 99) 3 := by decide +kernel
theorem d24_36 : own_D bc24 36 (.areturn) 1 := by decide +kernel
theorem pd__Ljava_lang_String_Lcom_example_countersign_countersign_Parameter_Kind_ZLjava_lang_String_Ljava_util_List_ZLcom_example_countersign_countersign_Parameter_Role_Ljava_util_Optional__V : parseMethodDescriptor "(Ljava/lang/String;Lcom/example/countersign/countersign/Parameter$Kind;ZLjava/lang/String;Ljava/util/List;ZLcom/example/countersign/countersign/Parameter$Role;Ljava/util/Optional;)V" = some ⟨[(.object "java/lang/String"), (.object "com/example/countersign/countersign/Parameter$Kind"), .boolean, (.object "java/lang/String"), (.object "java/util/List"), .boolean, (.object "com/example/countersign/countersign/Parameter$Role"), (.object "java/util/Optional")], none⟩ := by decide +kernel
def Q_as (Z : State) (p_ : Addr) (nm : Addr) (kd : Addr) (rq : Int32) (ds : Addr) (wn : Int32) (r0 : Addr) (ho : Addr) (hv : Value) (ro : Addr) (w_TEXT : Addr) (ch : Addr) (ne : Int32) (h0 : Heap) (n0 : Nat) (v : Option Value) (h : Heap) (L : List Loc) (vm : Vm) : Prop := ∃ (b : Addr), (v = some (.ref b)) ∧ (Fr n0 L) ∧ (Keep h0 h []) ∧ (Exa Z h b ks0) ∧ (Fld Z h b ks0 "name" ks13 (.ref nm)) ∧ (Fld Z h b ks0 "kind" ks5 (.ref kd)) ∧ (Fld Z h b ks0 ks23 "Z" (.int rq)) ∧ (Fld Z h b ks0 ks21 ks13 (.ref ds)) ∧ (Fld Z h b ks0 "choices" ks16 (.ref ch)) ∧ (Fld Z h b ks0 ks22 "Z" (.int wn)) ∧ (Fld Z h b ks0 "role" ks7 (.ref ro)) ∧ (Fld Z h b ks0 "header" ks15 (.ref ho)) ∧ (h0.size ≤ b) ∧ (own_wm Z vm)
theorem rm_as (l : Launch) (Z : State) (a0 : Array Value) (hw : own_HW a0 Z) (ws : List Jvm.Cond) (p_ : Addr) (nm : Addr) (kd : Addr) (rq : Int32) (ds : Addr) (wn : Int32) (r0 : Addr) (ho : Addr) (hv : Value) (ro : Addr) (w_TEXT : Addr) (ch : Addr) (ne : Int32) (h0 : Heap) (n0 : Nat) (O0 : Old Z n0 h0) (Q1 : Fld Z h0 p_ ks0 "name" ks13 (.ref nm)) (Q2 : Fld Z h0 p_ ks0 "kind" ks5 (.ref kd)) (Q3 : Fld Z h0 p_ ks0 ks23 "Z" (.int rq)) (Q4 : Fld Z h0 p_ ks0 ks21 ks13 (.ref ds)) (Q5 : Fld Z h0 p_ ks0 "choices" ks16 (.ref ch)) (Q6 : Fld Z h0 p_ ks0 ks22 "Z" (.int wn)) (Q7 : Fld Z h0 p_ ks0 "role" ks7 (.ref r0)) (Q8 : Fld Z h0 p_ ks0 "header" ks15 (.ref ho)) (E_ho : Exa Z h0 ho ks14) (F_ho : Fld Z h0 ho ks14 "value" ks12 hv) (hhv : hv.isRef = true) (hrq : own_B rq) (hwn : own_B wn) (hT1 : ¬ wn = (0 : Int32) → kd = w_TEXT) (hT2 : ¬ own_pv hv = (0 : Int32) → kd = w_TEXT) (S_TEXT : Sta Z Z.heap ks9 "TEXT" ks5 (.ref w_TEXT)) (IL_ch : own_IL Z h0 ch ne) (hkt : ne = (0 : Int32) → kd = w_TEXT) :
    own_MV l own_m47 (Jvm.Cond.code own_m47 bc24 2 (some (.object ks0)) :: ws) (rm4 10 11 304 181) #[(.ref p_), (.ref ro)] Z h0 (fun _ => True) (Q_as Z p_ nm kd rq ds wn r0 ho hv ro w_TEXT ch ne h0 n0) := by
  refine own_metV (own := ks0) (nme := "as") rfl rfl (plainFor_of_name pn_16) ?_
  intro p e s m below meth c s₁ hx hby hml hown hnm X0 e0 hret hlk hZ hS0 wm0
  have hZs := hZ
  have howns := hown
  have N0 := Fr.nil n0
  rw [ef_ini1_2 m p_ ro]
  obtain ⟨T1, h1, X1, e1, E1, A1, D1, -, st1⟩ := newO X0 hx hZ hown (wd hw 99 rfl) (wd hw 100 rfl) (wd hw 97 rfl) e0 (g := (mkF m 0 #[rv p_, rv ro] [])) rfl (hb hby d24_0) (by decide) (by decide)
  obtain ⟨b1, g1⟩ : ∃ z, z = h0.size := ⟨_, rfl⟩
  rw [← g1] at A1 D1 st1
  have fr1 : n0 ≤ b1 := Nat.le_trans (own_z O0) (Nat.le_of_eq g1.symm)
  have sz1 : h0.size ≤ b1 := Nat.le_trans (Keep.refl h0 []).1 (Nat.le_of_eq g1.symm)
  have F1_name : Fld Z h1 b1 ks0 "name" ks13 .null := D1 (Or.inr (wd hw 170 rfl)) (ty := (.object ks10)) (by decide)
  have F1_kind : Fld Z h1 b1 ks0 "kind" ks5 .null := D1 (Or.inr (wd hw 172 rfl)) (ty := (.object ks9)) (by decide)
  have F1_required : Fld Z h1 b1 ks0 ks23 "Z" (.int (0 : Int32)) := D1 (Or.inr (wd hw 174 rfl)) (ty := .boolean) (by decide)
  have F1_description : Fld Z h1 b1 ks0 ks21 ks13 .null := D1 (Or.inr (wd hw 176 rfl)) (ty := (.object ks10)) (by decide)
  have F1_choices : Fld Z h1 b1 ks0 "choices" ks16 .null := D1 (Or.inr (wd hw 178 rfl)) (ty := (.object ks18)) (by decide)
  have F1_wholeNumber : Fld Z h1 b1 ks0 ks22 "Z" (.int (0 : Int32)) := D1 (Or.inr (wd hw 180 rfl)) (ty := .boolean) (by decide)
  have F1_role : Fld Z h1 b1 ks0 "role" ks7 .null := D1 (Or.inr (wd hw 182 rfl)) (ty := (.object ks1)) (by decide)
  have F1_header : Fld Z h1 b1 ks0 "header" ks15 .null := D1 (Or.inr (wd hw 184 rfl)) (ty := (.object ks14)) (by decide)
  refine own_stV (T' := T1) (g' := (mkF m 3 #[rv p_, rv ro] [(.ref b1)])) st1 ?_
  clear st1
  refine own_spV (q := 4) (S' := [(.ref b1), (.ref b1)]) (fun _ k_ => XS.dup X1.here hx rfl (hb hby d24_3) rfl rfl k_) ?_
  refine own_spV (q := 5) (S' := [(.ref p_), (.ref b1), (.ref b1)]) (fun _ k_ => XS.aloadN X1.here hx rfl (hb hby d24_4) rfl rfl  k_) ?_
  have f2 := Q1.ext E1
  refine own_kget own_ckV X1 hx hZ hown (host := "") (Or.inl (wd hw 169 rfl)) Via.refl e1 f2 (hb hby d24_5) (q := 8) rfl fun T3 X3 e3 => ?_
  refine own_spV (q := 9) (S' := [(.ref p_), (.ref nm), (.ref b1), (.ref b1)]) (fun _ k_ => XS.aloadN X3.here hx rfl (hb hby d24_8) rfl rfl  k_) ?_
  have f4 := Q2.ext E1
  refine own_kget own_ckV X3 hx hZ hown (host := "") (Or.inl (wd hw 171 rfl)) Via.refl e3 f4 (hb hby d24_9) (q := 12) rfl fun T5 X5 e5 => ?_
  refine own_spV (q := 13) (S' := [(.ref p_), (.ref kd), (.ref nm), (.ref b1), (.ref b1)]) (fun _ k_ => XS.aloadN X5.here hx rfl (hb hby d24_12) rfl rfl  k_) ?_
  have f6 := Q3.ext E1
  refine own_kget own_ckV X5 hx hZ hown (host := "") (Or.inl (wd hw 173 rfl)) Via.refl e5 f6 (hb hby d24_13) (q := 16) rfl fun T7 X7 e7 => ?_
  refine own_spV (q := 17) (S' := [(.ref p_), (.int rq), (.ref kd), (.ref nm), (.ref b1), (.ref b1)]) (fun _ k_ => XS.aloadN X7.here hx rfl (hb hby d24_16) rfl rfl  k_) ?_
  have f8 := Q4.ext E1
  refine own_kget own_ckV X7 hx hZ hown (host := "") (Or.inl (wd hw 175 rfl)) Via.refl e7 f8 (hb hby d24_17) (q := 20) rfl fun T9 X9 e9 => ?_
  refine own_spV (q := 21) (S' := [(.ref p_), (.ref ds), (.int rq), (.ref kd), (.ref nm), (.ref b1), (.ref b1)]) (fun _ k_ => XS.aloadN X9.here hx rfl (hb hby d24_20) rfl rfl  k_) ?_
  have f10 := Q5.ext E1
  refine own_kget own_ckV X9 hx hZ hown (host := "") (Or.inl (wd hw 177 rfl)) Via.refl e9 f10 (hb hby d24_21) (q := 24) rfl fun T11 X11 e11 => ?_
  refine own_spV (q := 25) (S' := [(.ref p_), (.ref ch), (.ref ds), (.int rq), (.ref kd), (.ref nm), (.ref b1), (.ref b1)]) (fun _ k_ => XS.aloadN X11.here hx rfl (hb hby d24_24) rfl rfl  k_) ?_
  have f12 := Q6.ext E1
  refine own_kget own_ckV X11 hx hZ hown (host := "") (Or.inl (wd hw 179 rfl)) Via.refl e11 f12 (hb hby d24_25) (q := 28) rfl fun T13 X13 e13 => ?_
  refine own_spV (q := 29) (S' := [(.ref ro), (.int wn), (.ref ch), (.ref ds), (.int rq), (.ref kd), (.ref nm), (.ref b1), (.ref b1)]) (fun _ k_ => XS.aloadN X13.here hx rfl (hb hby d24_28) rfl rfl  k_) ?_
  refine own_spV (q := 30) (S' := [(.ref p_), (.ref ro), (.int wn), (.ref ch), (.ref ds), (.int rq), (.ref kd), (.ref nm), (.ref b1), (.ref b1)]) (fun _ k_ => XS.aloadN X13.here hx rfl (hb hby d24_29) rfl rfl  k_) ?_
  have f14 := Q8.ext E1
  refine own_kget own_ckV X13 hx hZ hown (host := "") (Or.inl (wd hw 183 rfl)) Via.refl e13 f14 (hb hby d24_30) (q := 33) rfl fun T15 X15 e15 => ?_
  have f16 := E_ho.ext E1
  have f17 := F_ho.ext E1
  have f18 := own_ILe IL_ch E1
  have f19 := O0.ext E1
  obtain ⟨_, T20, L20, X20, hS20, hW20, hQ20, st20⟩ := own_callIV (Z := Z) X15 hx (y := own_m46) rfl hown (mvT hZ (wd hw 113 rfl)) (mvT hZ (wd hw 114 rfl)) (mvT hZ (wd hw 115 rfl)) (by decide) (own_backV (W := 1) (rm_ini_IL l Z a0 hw [] b1 nm kd rq ds wn ro ho hv w_TEXT ch ne h1 n0 f19 A1 F1_name F1_kind F1_required F1_description F1_choices F1_wholeNumber F1_role F1_header fr1 f16 f17 hhv hrq hwn hT1 hT2 S_TEXT f18 hkt) hZ (wd hw 115 rfl) (wd hw 97 rfl) (by decide) (by decide) (fun _ _ => trivial)) (g := (mkF m 33 #[rv p_, rv ro] [(.ref ho), (.ref ro), (.int wn), (.ref ch), (.ref ds), (.int rq), (.ref kd), (.ref nm), (.ref b1), (.ref b1)])) rfl (by rw [hml]; rfl) (a := b1) (argsL := [(.ref nm), (.ref kd), (.int rq), (.ref ds), (.ref ch), (.int wn), (.ref ro), (.ref ho)]) (rest := [(.ref b1)]) (lenOf pd__Ljava_lang_String_Lcom_example_countersign_countersign_Parameter_Kind_ZLjava_lang_String_Ljava_util_List_ZLcom_example_countersign_countersign_Parameter_Role_Ljava_util_Optional__V rfl) rfl (by show 2 * 0 + _ ≤ _; exact Nat.le_of_eq rfl) (hb hby d24_33) rfl e15 (by decide) (by decide) (c' := 11) (s' := 304) rfl rfl hS0 (Nat.le_trans (Nat.le_refl _) E1.1)
  obtain ⟨rfl, Nq20, K20, fq20_0, fq20_1, fq20_2, fq20_3, fq20_4, fq20_5, fq20_6, fq20_7, fq20_8, wmq20⟩ := hQ20
  have N20 := Fr.app N0 Nq20
  have hZ20 : Z.Warmed39 (s.setVm T20.vm).vm := own_hZ hZs hS20
  have hown20 : (s.setVm T20.vm).vm.findClass ks0 = some m.cls := own_hown howns hS20
  refine own_spV (q := 36) (S' := [(.ref b1)]) st20 ?_
  clear st20
  have f21 := (Keep.refl h0 []).ext E1
  have f22 := f21.trans K20 (allS (Or.inr sz1) all0)
  exact own_retAV X20 hS20 (Nat.le_refl _) hx hret rfl rfl hlk (hb hby d24_36) (by decide) (by decide) ⟨b1, rfl, N20, f22, fq20_0, fq20_1, fq20_2, fq20_3, fq20_4, fq20_5, fq20_6, fq20_7, fq20_8, sz1, own_wmS wmq20 (show (s.setVm T20.vm).Warmed39 _ from X20.warmed.wide)⟩
def Q_asw (Z : State) (p_ : Addr) (nm : Addr) (kd : Addr) (rq : Int32) (ds : Addr) (wn : Int32) (r0 : Addr) (ho : Addr) (hv : Value) (ro : Addr) (w_TEXT : Addr) (ch : Addr) (ne : Int32) (h0 : Heap) (n0 : Nat) (v : Option Value) (h : Heap) (L : List Loc) (vm : Vm) : Prop := ∃ (b : Addr), (v = some (.ref b)) ∧ (Fr n0 L) ∧ (Keep h0 h []) ∧ (Exa Z h b ks0) ∧ (Fld Z h b ks0 "name" ks13 (.ref nm)) ∧ (Fld Z h b ks0 "kind" ks5 (.ref kd)) ∧ (Fld Z h b ks0 ks23 "Z" (.int rq)) ∧ (Fld Z h b ks0 ks21 ks13 (.ref ds)) ∧ (Fld Z h b ks0 "choices" ks16 (.ref ch)) ∧ (Fld Z h b ks0 ks22 "Z" (.int wn)) ∧ (Fld Z h b ks0 "role" ks7 (.ref ro)) ∧ (Fld Z h b ks0 "header" ks15 (.ref ho)) ∧ (h0.size ≤ b) ∧ (own_wm Z vm)
theorem rm_asw (l : Launch) (Z : State) (a0 : Array Value) (hw : own_HW a0 Z) (ws : List Jvm.Cond) (p_ : Addr) (nm : Addr) (kd : Addr) (rq : Int32) (ds : Addr) (wn : Int32) (r0 : Addr) (ho : Addr) (hv : Value) (ro : Addr) (w_TEXT : Addr) (ch : Addr) (ne : Int32) (h0 : Heap) (n0 : Nat) (O0 : Old Z n0 h0) (Q1 : Fld Z h0 p_ ks0 "name" ks13 (.ref nm)) (Q2 : Fld Z h0 p_ ks0 "kind" ks5 (.ref kd)) (Q3 : Fld Z h0 p_ ks0 ks23 "Z" (.int rq)) (Q4 : Fld Z h0 p_ ks0 ks21 ks13 (.ref ds)) (Q5 : Fld Z h0 p_ ks0 "choices" ks16 (.ref ch)) (Q6 : Fld Z h0 p_ ks0 ks22 "Z" (.int wn)) (Q7 : Fld Z h0 p_ ks0 "role" ks7 (.ref r0)) (Q8 : Fld Z h0 p_ ks0 "header" ks15 (.ref ho)) (E_ho : Exa Z h0 ho ks14) (F_ho : Fld Z h0 ho ks14 "value" ks12 hv) (hhv : hv.isRef = true) (hrq : own_B rq) (hwn : own_B wn) (hT1 : ¬ wn = (0 : Int32) → kd = w_TEXT) (hT2 : ¬ own_pv hv = (0 : Int32) → kd = w_TEXT) (S_TEXT : Sta Z Z.heap ks9 "TEXT" ks5 (.ref w_TEXT)) (IL_ch : own_IL Z h0 ch ne) (hkt : ne = (0 : Int32) → kd = w_TEXT) :
    own_MV l own_m47 (Jvm.Cond.code own_m47 bc24 2 (some (.object ks0)) :: ws) (rm4 10 1 8 181) #[(.ref p_), (.ref ro)] Z h0 (own_wm Z) (Q_asw Z p_ nm kd rq ds wn r0 ho hv ro w_TEXT ch ne h0 n0) := by
  refine own_metV (own := ks0) (nme := "as") rfl rfl (plainFor_of_name pn_16) ?_
  intro p e s m below meth c s₁ hx hby hml hown hnm X0 e0 hret hlk hZ hS0 wm0
  have hZs := hZ
  have howns := hown
  have N0 := Fr.nil n0
  rw [ef_ini1_2 m p_ ro]
  obtain ⟨T1, h1, X1, e1, E1, A1, D1, -, st1⟩ := newO X0 hx hZ hown (wd hw 99 rfl) (wd hw 100 rfl) (wd hw 97 rfl) e0 (g := (mkF m 0 #[rv p_, rv ro] [])) rfl (hb hby d24_0) (by decide) (by decide)
  obtain ⟨b1, g1⟩ : ∃ z, z = h0.size := ⟨_, rfl⟩
  rw [← g1] at A1 D1 st1
  have fr1 : n0 ≤ b1 := Nat.le_trans (own_z O0) (Nat.le_of_eq g1.symm)
  have sz1 : h0.size ≤ b1 := Nat.le_trans (Keep.refl h0 []).1 (Nat.le_of_eq g1.symm)
  have F1_name : Fld Z h1 b1 ks0 "name" ks13 .null := D1 (Or.inr (wd hw 170 rfl)) (ty := (.object ks10)) (by decide)
  have F1_kind : Fld Z h1 b1 ks0 "kind" ks5 .null := D1 (Or.inr (wd hw 172 rfl)) (ty := (.object ks9)) (by decide)
  have F1_required : Fld Z h1 b1 ks0 ks23 "Z" (.int (0 : Int32)) := D1 (Or.inr (wd hw 174 rfl)) (ty := .boolean) (by decide)
  have F1_description : Fld Z h1 b1 ks0 ks21 ks13 .null := D1 (Or.inr (wd hw 176 rfl)) (ty := (.object ks10)) (by decide)
  have F1_choices : Fld Z h1 b1 ks0 "choices" ks16 .null := D1 (Or.inr (wd hw 178 rfl)) (ty := (.object ks18)) (by decide)
  have F1_wholeNumber : Fld Z h1 b1 ks0 ks22 "Z" (.int (0 : Int32)) := D1 (Or.inr (wd hw 180 rfl)) (ty := .boolean) (by decide)
  have F1_role : Fld Z h1 b1 ks0 "role" ks7 .null := D1 (Or.inr (wd hw 182 rfl)) (ty := (.object ks1)) (by decide)
  have F1_header : Fld Z h1 b1 ks0 "header" ks15 .null := D1 (Or.inr (wd hw 184 rfl)) (ty := (.object ks14)) (by decide)
  refine own_stV (T' := T1) (g' := (mkF m 3 #[rv p_, rv ro] [(.ref b1)])) st1 ?_
  clear st1
  refine own_spV (q := 4) (S' := [(.ref b1), (.ref b1)]) (fun _ k_ => XS.dup X1.here hx rfl (hb hby d24_3) rfl rfl k_) ?_
  refine own_spV (q := 5) (S' := [(.ref p_), (.ref b1), (.ref b1)]) (fun _ k_ => XS.aloadN X1.here hx rfl (hb hby d24_4) rfl rfl  k_) ?_
  have f2 := Q1.ext E1
  refine own_kget own_ckV X1 hx hZ hown (host := "") (Or.inl (wd hw 169 rfl)) Via.refl e1 f2 (hb hby d24_5) (q := 8) rfl fun T3 X3 e3 => ?_
  refine own_spV (q := 9) (S' := [(.ref p_), (.ref nm), (.ref b1), (.ref b1)]) (fun _ k_ => XS.aloadN X3.here hx rfl (hb hby d24_8) rfl rfl  k_) ?_
  have f4 := Q2.ext E1
  refine own_kget own_ckV X3 hx hZ hown (host := "") (Or.inl (wd hw 171 rfl)) Via.refl e3 f4 (hb hby d24_9) (q := 12) rfl fun T5 X5 e5 => ?_
  refine own_spV (q := 13) (S' := [(.ref p_), (.ref kd), (.ref nm), (.ref b1), (.ref b1)]) (fun _ k_ => XS.aloadN X5.here hx rfl (hb hby d24_12) rfl rfl  k_) ?_
  have f6 := Q3.ext E1
  refine own_kget own_ckV X5 hx hZ hown (host := "") (Or.inl (wd hw 173 rfl)) Via.refl e5 f6 (hb hby d24_13) (q := 16) rfl fun T7 X7 e7 => ?_
  refine own_spV (q := 17) (S' := [(.ref p_), (.int rq), (.ref kd), (.ref nm), (.ref b1), (.ref b1)]) (fun _ k_ => XS.aloadN X7.here hx rfl (hb hby d24_16) rfl rfl  k_) ?_
  have f8 := Q4.ext E1
  refine own_kget own_ckV X7 hx hZ hown (host := "") (Or.inl (wd hw 175 rfl)) Via.refl e7 f8 (hb hby d24_17) (q := 20) rfl fun T9 X9 e9 => ?_
  refine own_spV (q := 21) (S' := [(.ref p_), (.ref ds), (.int rq), (.ref kd), (.ref nm), (.ref b1), (.ref b1)]) (fun _ k_ => XS.aloadN X9.here hx rfl (hb hby d24_20) rfl rfl  k_) ?_
  have f10 := Q5.ext E1
  refine own_kget own_ckV X9 hx hZ hown (host := "") (Or.inl (wd hw 177 rfl)) Via.refl e9 f10 (hb hby d24_21) (q := 24) rfl fun T11 X11 e11 => ?_
  refine own_spV (q := 25) (S' := [(.ref p_), (.ref ch), (.ref ds), (.int rq), (.ref kd), (.ref nm), (.ref b1), (.ref b1)]) (fun _ k_ => XS.aloadN X11.here hx rfl (hb hby d24_24) rfl rfl  k_) ?_
  have f12 := Q6.ext E1
  refine own_kget own_ckV X11 hx hZ hown (host := "") (Or.inl (wd hw 179 rfl)) Via.refl e11 f12 (hb hby d24_25) (q := 28) rfl fun T13 X13 e13 => ?_
  refine own_spV (q := 29) (S' := [(.ref ro), (.int wn), (.ref ch), (.ref ds), (.int rq), (.ref kd), (.ref nm), (.ref b1), (.ref b1)]) (fun _ k_ => XS.aloadN X13.here hx rfl (hb hby d24_28) rfl rfl  k_) ?_
  refine own_spV (q := 30) (S' := [(.ref p_), (.ref ro), (.int wn), (.ref ch), (.ref ds), (.int rq), (.ref kd), (.ref nm), (.ref b1), (.ref b1)]) (fun _ k_ => XS.aloadN X13.here hx rfl (hb hby d24_29) rfl rfl  k_) ?_
  have f14 := Q8.ext E1
  refine own_kget own_ckV X13 hx hZ hown (host := "") (Or.inl (wd hw 183 rfl)) Via.refl e13 f14 (hb hby d24_30) (q := 33) rfl fun T15 X15 e15 => ?_
  have f16 := E_ho.ext E1
  have f17 := F_ho.ext E1
  have f18 := own_ILe IL_ch E1
  have f19 := O0.ext E1
  obtain ⟨_, T20, L20, X20, hS20, hW20, hQ20, st20⟩ := own_callIV (Z := Z) X15 hx (y := own_m46) rfl hown (mvT hZ (wd hw 113 rfl)) (mvT hZ (wd hw 114 rfl)) (mvT hZ (wd hw 115 rfl)) (by decide) (own_backV (W := 1) (rm_ini_ILw l Z a0 hw [] b1 nm kd rq ds wn ro ho hv w_TEXT ch ne h1 n0 f19 A1 F1_name F1_kind F1_required F1_description F1_choices F1_wholeNumber F1_role F1_header fr1 f16 f17 hhv hrq hwn hT1 hT2 S_TEXT f18 hkt) hZ (wd hw 115 rfl) (wd hw 97 rfl) (by decide) (by decide) (fun _ q => own_wmS wm0 q)) (g := (mkF m 33 #[rv p_, rv ro] [(.ref ho), (.ref ro), (.int wn), (.ref ch), (.ref ds), (.int rq), (.ref kd), (.ref nm), (.ref b1), (.ref b1)])) rfl (by rw [hml]; rfl) (a := b1) (argsL := [(.ref nm), (.ref kd), (.int rq), (.ref ds), (.ref ch), (.int wn), (.ref ro), (.ref ho)]) (rest := [(.ref b1)]) (lenOf pd__Ljava_lang_String_Lcom_example_countersign_countersign_Parameter_Kind_ZLjava_lang_String_Ljava_util_List_ZLcom_example_countersign_countersign_Parameter_Role_Ljava_util_Optional__V rfl) rfl (by show 2 * 0 + _ ≤ _; exact Nat.le_of_eq rfl) (hb hby d24_33) rfl e15 (by decide) (by decide) (c' := 1) (s' := 8) rfl rfl hS0 (Nat.le_trans (Nat.le_refl _) E1.1)
  obtain ⟨rfl, Nq20, K20, fq20_0, fq20_1, fq20_2, fq20_3, fq20_4, fq20_5, fq20_6, fq20_7, fq20_8, wmq20⟩ := hQ20
  have N20 := Fr.app N0 Nq20
  have hZ20 : Z.Warmed39 (s.setVm T20.vm).vm := own_hZ hZs hS20
  have hown20 : (s.setVm T20.vm).vm.findClass ks0 = some m.cls := own_hown howns hS20
  refine own_spV (q := 36) (S' := [(.ref b1)]) st20 ?_
  clear st20
  have f21 := (Keep.refl h0 []).ext E1
  have f22 := f21.trans K20 (allS (Or.inr sz1) all0)
  exact own_retAV X20 hS20 (Nat.le_refl _) hx hret rfl rfl hlk (hb hby d24_36) (by decide) (by decide) ⟨b1, rfl, N20, f22, fq20_0, fq20_1, fq20_2, fq20_3, fq20_4, fq20_5, fq20_6, fq20_7, fq20_8, sz1, own_wmS wmq20 (show (s.setVm T20.vm).Warmed39 _ from X20.warmed.wide)⟩
theorem d55_0 : own_D bc55 0 (.new 56) 3 := by decide +kernel
theorem d55_3 : own_D bc55 3 (.dup) 1 := by decide +kernel
theorem d55_4 : own_D bc55 4 (.aload_n 0) 1 := by decide +kernel
theorem d55_5 : own_D bc55 5 (.getfield 55) 3 := by decide +kernel
theorem d55_8 : own_D bc55 8 (.aload_n 0) 1 := by decide +kernel
theorem d55_9 : own_D bc55 9 (.getfield 61) 3 := by decide +kernel
theorem d55_12 : own_D bc55 12 (.aload_n 0) 1 := by decide +kernel
theorem d55_13 : own_D bc55 13 (.getfield 64) 3 := by decide +kernel
theorem d55_16 : own_D bc55 16 (.aload_n 0) 1 := by decide +kernel
theorem d55_17 : own_D bc55 17 (.getfield 68) 3 := by decide +kernel
theorem d55_20 : own_D bc55 20 (.aload_n 0) 1 := by decide +kernel
theorem d55_21 : own_D bc55 21 (.getfield 71) 3 := by decide +kernel
theorem d55_24 : own_D bc55 24 (.iconst 1) 1 := by decide +kernel
theorem d55_25 : own_D bc55 25 (.aload_n 0) 1 := by decide +kernel
theorem d55_26 : own_D bc55 26 (.getfield 78) 3 := by decide +kernel
theorem d55_29 : own_D bc55 29 (.aload_n 0) 1 := by decide +kernel
theorem d55_30 : own_D bc55 30 (.getfield 82) 3 := by decide +kernel
theorem d55_33 : own_D bc55 33 (.invokespecial 99) 3 := by decide +kernel
theorem d55_36 : own_D bc55 36 (.areturn) 1 := by decide +kernel
def Q_whn (Z : State) (p_ : Addr) (nm : Addr) (kd : Addr) (rq : Int32) (ds : Addr) (ro : Addr) (ho : Addr) (hv : Value) (w_TEXT : Addr) (ch : Addr) (ne : Int32) (h0 : Heap) (n0 : Nat) (v : Option Value) (h : Heap) (L : List Loc) (vm : Vm) : Prop := ∃ (b : Addr), (v = some (.ref b)) ∧ (Fr n0 L) ∧ (Keep h0 h []) ∧ (Exa Z h b ks0) ∧ (Fld Z h b ks0 "name" ks13 (.ref nm)) ∧ (Fld Z h b ks0 "kind" ks5 (.ref kd)) ∧ (Fld Z h b ks0 ks23 "Z" (.int rq)) ∧ (Fld Z h b ks0 ks21 ks13 (.ref ds)) ∧ (Fld Z h b ks0 "choices" ks16 (.ref ch)) ∧ (Fld Z h b ks0 ks22 "Z" (.int (1 : Int32))) ∧ (Fld Z h b ks0 "role" ks7 (.ref ro)) ∧ (Fld Z h b ks0 "header" ks15 (.ref ho)) ∧ (h0.size ≤ b) ∧ (own_wm Z vm)
theorem rm_whn (l : Launch) (Z : State) (a0 : Array Value) (hw : own_HW a0 Z) (ws : List Jvm.Cond) (p_ : Addr) (nm : Addr) (kd : Addr) (rq : Int32) (ds : Addr) (ro : Addr) (ho : Addr) (hv : Value) (w_TEXT : Addr) (ch : Addr) (ne : Int32) (h0 : Heap) (n0 : Nat) (O0 : Old Z n0 h0) (Q1 : Fld Z h0 p_ ks0 "name" ks13 (.ref nm)) (Q2 : Fld Z h0 p_ ks0 "kind" ks5 (.ref kd)) (Q3 : Fld Z h0 p_ ks0 ks23 "Z" (.int rq)) (Q4 : Fld Z h0 p_ ks0 ks21 ks13 (.ref ds)) (Q5 : Fld Z h0 p_ ks0 "choices" ks16 (.ref ch)) (Q6 : Fld Z h0 p_ ks0 ks22 "Z" (.int (0 : Int32))) (Q7 : Fld Z h0 p_ ks0 "role" ks7 (.ref ro)) (Q8 : Fld Z h0 p_ ks0 "header" ks15 (.ref ho)) (E_ho : Exa Z h0 ho ks14) (F_ho : Fld Z h0 ho ks14 "value" ks12 hv) (hhv : hv.isRef = true) (hrq : own_B rq) (hk1 : kd = w_TEXT) (hT2 : ¬ own_pv hv = (0 : Int32) → kd = w_TEXT) (S_TEXT : Sta Z Z.heap ks9 "TEXT" ks5 (.ref w_TEXT)) (IL_ch : own_IL Z h0 ch ne) (hkt : ne = (0 : Int32) → kd = w_TEXT) :
    own_MV l own_m48 (Jvm.Cond.code own_m48 bc55 1 (some (.object ks0)) :: ws) (rm4 10 11 304 181) #[(.ref p_)] Z h0 (fun _ => True) (Q_whn Z p_ nm kd rq ds ro ho hv w_TEXT ch ne h0 n0) := by
  refine own_metV (own := ks0) (nme := "asWholeNumber") rfl rfl (plainFor_of_name pn_16) ?_
  intro p e s m below meth c s₁ hx hby hml hown hnm X0 e0 hret hlk hZ hS0 wm0
  have hZs := hZ
  have howns := hown
  have N0 := Fr.nil n0
  rw [ef_abci m p_]
  obtain ⟨T1, h1, X1, e1, E1, A1, D1, -, st1⟩ := newO X0 hx hZ hown (wd hw 99 rfl) (wd hw 100 rfl) (wd hw 97 rfl) e0 (g := (mkF m 0 #[rv p_] [])) rfl (hb hby d55_0) (by decide) (by decide)
  obtain ⟨b1, g1⟩ : ∃ z, z = h0.size := ⟨_, rfl⟩
  rw [← g1] at A1 D1 st1
  have fr1 : n0 ≤ b1 := Nat.le_trans (own_z O0) (Nat.le_of_eq g1.symm)
  have sz1 : h0.size ≤ b1 := Nat.le_trans (Keep.refl h0 []).1 (Nat.le_of_eq g1.symm)
  have F1_name : Fld Z h1 b1 ks0 "name" ks13 .null := D1 (Or.inr (wd hw 170 rfl)) (ty := (.object ks10)) (by decide)
  have F1_kind : Fld Z h1 b1 ks0 "kind" ks5 .null := D1 (Or.inr (wd hw 172 rfl)) (ty := (.object ks9)) (by decide)
  have F1_required : Fld Z h1 b1 ks0 ks23 "Z" (.int (0 : Int32)) := D1 (Or.inr (wd hw 174 rfl)) (ty := .boolean) (by decide)
  have F1_description : Fld Z h1 b1 ks0 ks21 ks13 .null := D1 (Or.inr (wd hw 176 rfl)) (ty := (.object ks10)) (by decide)
  have F1_choices : Fld Z h1 b1 ks0 "choices" ks16 .null := D1 (Or.inr (wd hw 178 rfl)) (ty := (.object ks18)) (by decide)
  have F1_wholeNumber : Fld Z h1 b1 ks0 ks22 "Z" (.int (0 : Int32)) := D1 (Or.inr (wd hw 180 rfl)) (ty := .boolean) (by decide)
  have F1_role : Fld Z h1 b1 ks0 "role" ks7 .null := D1 (Or.inr (wd hw 182 rfl)) (ty := (.object ks1)) (by decide)
  have F1_header : Fld Z h1 b1 ks0 "header" ks15 .null := D1 (Or.inr (wd hw 184 rfl)) (ty := (.object ks14)) (by decide)
  refine own_stV (T' := T1) (g' := (mkF m 3 #[rv p_] [(.ref b1)])) st1 ?_
  clear st1
  refine own_spV (q := 4) (S' := [(.ref b1), (.ref b1)]) (fun _ k_ => XS.dup X1.here hx rfl (hb hby d55_3) rfl rfl k_) ?_
  refine own_spV (q := 5) (S' := [(.ref p_), (.ref b1), (.ref b1)]) (fun _ k_ => XS.aloadN X1.here hx rfl (hb hby d55_4) rfl rfl  k_) ?_
  have f2 := Q1.ext E1
  refine own_kget own_ckV X1 hx hZ hown (host := "") (Or.inl (wd hw 169 rfl)) Via.refl e1 f2 (hb hby d55_5) (q := 8) rfl fun T3 X3 e3 => ?_
  refine own_spV (q := 9) (S' := [(.ref p_), (.ref nm), (.ref b1), (.ref b1)]) (fun _ k_ => XS.aloadN X3.here hx rfl (hb hby d55_8) rfl rfl  k_) ?_
  have f4 := Q2.ext E1
  refine own_kget own_ckV X3 hx hZ hown (host := "") (Or.inl (wd hw 171 rfl)) Via.refl e3 f4 (hb hby d55_9) (q := 12) rfl fun T5 X5 e5 => ?_
  refine own_spV (q := 13) (S' := [(.ref p_), (.ref kd), (.ref nm), (.ref b1), (.ref b1)]) (fun _ k_ => XS.aloadN X5.here hx rfl (hb hby d55_12) rfl rfl  k_) ?_
  have f6 := Q3.ext E1
  refine own_kget own_ckV X5 hx hZ hown (host := "") (Or.inl (wd hw 173 rfl)) Via.refl e5 f6 (hb hby d55_13) (q := 16) rfl fun T7 X7 e7 => ?_
  refine own_spV (q := 17) (S' := [(.ref p_), (.int rq), (.ref kd), (.ref nm), (.ref b1), (.ref b1)]) (fun _ k_ => XS.aloadN X7.here hx rfl (hb hby d55_16) rfl rfl  k_) ?_
  have f8 := Q4.ext E1
  refine own_kget own_ckV X7 hx hZ hown (host := "") (Or.inl (wd hw 175 rfl)) Via.refl e7 f8 (hb hby d55_17) (q := 20) rfl fun T9 X9 e9 => ?_
  refine own_spV (q := 21) (S' := [(.ref p_), (.ref ds), (.int rq), (.ref kd), (.ref nm), (.ref b1), (.ref b1)]) (fun _ k_ => XS.aloadN X9.here hx rfl (hb hby d55_20) rfl rfl  k_) ?_
  have f10 := Q5.ext E1
  refine own_kget own_ckV X9 hx hZ hown (host := "") (Or.inl (wd hw 177 rfl)) Via.refl e9 f10 (hb hby d55_21) (q := 24) rfl fun T11 X11 e11 => ?_
  refine own_spV (q := 25) (S' := [(.int (1 : Int32)), (.ref ch), (.ref ds), (.int rq), (.ref kd), (.ref nm), (.ref b1), (.ref b1)]) (fun _ k_ => XS.iconst X11.here hx rfl (hb hby d55_24) k_) ?_
  refine own_spV (q := 26) (S' := [(.ref p_), (.int (1 : Int32)), (.ref ch), (.ref ds), (.int rq), (.ref kd), (.ref nm), (.ref b1), (.ref b1)]) (fun _ k_ => XS.aloadN X11.here hx rfl (hb hby d55_25) rfl rfl  k_) ?_
  have f12 := Q7.ext E1
  refine own_kget own_ckV X11 hx hZ hown (host := "") (Or.inl (wd hw 181 rfl)) Via.refl e11 f12 (hb hby d55_26) (q := 29) rfl fun T13 X13 e13 => ?_
  refine own_spV (q := 30) (S' := [(.ref p_), (.ref ro), (.int (1 : Int32)), (.ref ch), (.ref ds), (.int rq), (.ref kd), (.ref nm), (.ref b1), (.ref b1)]) (fun _ k_ => XS.aloadN X13.here hx rfl (hb hby d55_29) rfl rfl  k_) ?_
  have f14 := Q8.ext E1
  refine own_kget own_ckV X13 hx hZ hown (host := "") (Or.inl (wd hw 183 rfl)) Via.refl e13 f14 (hb hby d55_30) (q := 33) rfl fun T15 X15 e15 => ?_
  have f16 := E_ho.ext E1
  have f17 := F_ho.ext E1
  have f18 := own_ILe IL_ch E1
  have f19 := O0.ext E1
  obtain ⟨_, T20, L20, X20, hS20, hW20, hQ20, st20⟩ := own_callIV (Z := Z) X15 hx (y := own_m46) rfl hown (mvT hZ (wd hw 113 rfl)) (mvT hZ (wd hw 114 rfl)) (mvT hZ (wd hw 115 rfl)) (by decide) (own_backV (W := 1) (rm_ini_IL l Z a0 hw [] b1 nm kd rq ds (1 : Int32) ro ho hv w_TEXT ch ne h1 n0 f19 A1 F1_name F1_kind F1_required F1_description F1_choices F1_wholeNumber F1_role F1_header fr1 f16 f17 hhv hrq (Or.inr rfl) (fun _ => hk1) hT2 S_TEXT f18 hkt) hZ (wd hw 115 rfl) (wd hw 97 rfl) (by decide) (by decide) (fun _ _ => trivial)) (g := (mkF m 33 #[rv p_] [(.ref ho), (.ref ro), (.int (1 : Int32)), (.ref ch), (.ref ds), (.int rq), (.ref kd), (.ref nm), (.ref b1), (.ref b1)])) rfl (by rw [hml]; rfl) (a := b1) (argsL := [(.ref nm), (.ref kd), (.int rq), (.ref ds), (.ref ch), (.int (1 : Int32)), (.ref ro), (.ref ho)]) (rest := [(.ref b1)]) (lenOf pd__Ljava_lang_String_Lcom_example_countersign_countersign_Parameter_Kind_ZLjava_lang_String_Ljava_util_List_ZLcom_example_countersign_countersign_Parameter_Role_Ljava_util_Optional__V rfl) rfl (by show 2 * 0 + _ ≤ _; exact Nat.le_of_eq rfl) (hb hby d55_33) rfl e15 (by decide) (by decide) (c' := 11) (s' := 304) rfl rfl hS0 (Nat.le_trans (Nat.le_refl _) E1.1)
  obtain ⟨rfl, Nq20, K20, fq20_0, fq20_1, fq20_2, fq20_3, fq20_4, fq20_5, fq20_6, fq20_7, fq20_8, wmq20⟩ := hQ20
  have N20 := Fr.app N0 Nq20
  have hZ20 : Z.Warmed39 (s.setVm T20.vm).vm := own_hZ hZs hS20
  have hown20 : (s.setVm T20.vm).vm.findClass ks0 = some m.cls := own_hown howns hS20
  refine own_spV (q := 36) (S' := [(.ref b1)]) st20 ?_
  clear st20
  have f21 := (Keep.refl h0 []).ext E1
  have f22 := f21.trans K20 (allS (Or.inr sz1) all0)
  exact own_retAV X20 hS20 (Nat.le_refl _) hx hret rfl rfl hlk (hb hby d55_36) (by decide) (by decide) ⟨b1, rfl, N20, f22, fq20_0, fq20_1, fq20_2, fq20_3, fq20_4, fq20_5, fq20_6, fq20_7, fq20_8, sz1, own_wmS wmq20 (show (s.setVm T20.vm).Warmed39 _ from X20.warmed.wide)⟩
theorem d56_0 : own_D bc56 0 (.new 56) 3 := by decide +kernel
theorem d56_3 : own_D bc56 3 (.dup) 1 := by decide +kernel
theorem d56_4 : own_D bc56 4 (.aload_n 0) 1 := by decide +kernel
theorem d56_5 : own_D bc56 5 (.getfield 55) 3 := by decide +kernel
theorem d56_8 : own_D bc56 8 (.aload_n 0) 1 := by decide +kernel
theorem d56_9 : own_D bc56 9 (.getfield 61) 3 := by decide +kernel
theorem d56_12 : own_D bc56 12 (.aload_n 0) 1 := by decide +kernel
theorem d56_13 : own_D bc56 13 (.getfield 64) 3 := by decide +kernel
theorem d56_16 : own_D bc56 16 (.aload_n 0) 1 := by decide +kernel
theorem d56_17 : own_D bc56 17 (.getfield 68) 3 := by decide +kernel
theorem d56_20 : own_D bc56 20 (.aload_n 0) 1 := by decide +kernel
theorem d56_21 : own_D bc56 21 (.getfield 71) 3 := by decide +kernel
theorem d56_24 : own_D bc56 24 (.aload_n 0) 1 := by decide +kernel
theorem d56_25 : own_D bc56 25 (.getfield 75) 3 := by decide +kernel
theorem d56_28 : own_D bc56 28 (.aload_n 0) 1 := by decide +kernel
theorem d56_29 : own_D bc56 29 (.getfield 78) 3 := by decide +kernel
theorem d56_32 : own_D bc56 32 (.aload_n 1) 1 := by decide +kernel
theorem d56_33 : own_D bc56 33 (.invokestatic 102) 3 := by decide +kernel
theorem d56_36 : own_D bc56 36 (.invokespecial 99) 3 := by decide +kernel
theorem d56_39 : own_D bc56 39 (.areturn) 1 := by decide +kernel
theorem pd__Ljava_lang_Object__Ljava_util_Optional_ : parseMethodDescriptor "(Ljava/lang/Object;)Ljava/util/Optional;" = some ⟨[(.object "java/lang/Object")], some (.object "java/util/Optional")⟩ := by decide +kernel
def Q_snt (Z : State) (p_ : Addr) (nm : Addr) (kd : Addr) (rq : Int32) (ds : Addr) (wn : Int32) (ro : Addr) (ho : Addr) (hs : Addr) (w_TEXT : Addr) (ch : Addr) (ne : Int32) (h0 : Heap) (n0 : Nat) (v : Option Value) (h : Heap) (L : List Loc) (vm : Vm) : Prop := ∃ (b : Addr) (hn : Addr), (v = some (.ref b)) ∧ (Fr n0 L) ∧ (Keep h0 h []) ∧ (Exa Z h b ks0) ∧ (Fld Z h b ks0 "name" ks13 (.ref nm)) ∧ (Fld Z h b ks0 "kind" ks5 (.ref kd)) ∧ (Fld Z h b ks0 ks23 "Z" (.int rq)) ∧ (Fld Z h b ks0 ks21 ks13 (.ref ds)) ∧ (Fld Z h b ks0 "choices" ks16 (.ref ch)) ∧ (Fld Z h b ks0 ks22 "Z" (.int wn)) ∧ (Fld Z h b ks0 "role" ks7 (.ref ro)) ∧ (Fld Z h b ks0 "header" ks15 (.ref hn)) ∧ (Exa Z h hn ks14) ∧ (Fld Z h hn ks14 "value" ks12 (.ref hs)) ∧ (h0.size ≤ b) ∧ (own_wm Z vm)
theorem rm_snt (l : Launch) (Z : State) (a0 : Array Value) (hw : own_HW a0 Z) (ws : List Jvm.Cond) (p_ : Addr) (nm : Addr) (kd : Addr) (rq : Int32) (ds : Addr) (wn : Int32) (ro : Addr) (ho : Addr) (hs : Addr) (w_TEXT : Addr) (ch : Addr) (ne : Int32) (h0 : Heap) (n0 : Nat) (O0 : Old Z n0 h0) (Q1 : Fld Z h0 p_ ks0 "name" ks13 (.ref nm)) (Q2 : Fld Z h0 p_ ks0 "kind" ks5 (.ref kd)) (Q3 : Fld Z h0 p_ ks0 ks23 "Z" (.int rq)) (Q4 : Fld Z h0 p_ ks0 ks21 ks13 (.ref ds)) (Q5 : Fld Z h0 p_ ks0 "choices" ks16 (.ref ch)) (Q6 : Fld Z h0 p_ ks0 ks22 "Z" (.int wn)) (Q7 : Fld Z h0 p_ ks0 "role" ks7 (.ref ro)) (Q8 : Fld Z h0 p_ ks0 "header" ks15 (.ref ho)) (hrq : own_B rq) (hwn : own_B wn) (hk1 : kd = w_TEXT) (S_TEXT : Sta Z Z.heap ks9 "TEXT" ks5 (.ref w_TEXT)) (IL_ch : own_IL Z h0 ch ne) (hkt : ne = (0 : Int32) → kd = w_TEXT) :
    own_MV l own_m49 (Jvm.Cond.code own_m49 bc56 2 (some (.object ks0)) :: ws) (rm4 10 12 305 181) #[(.ref p_), (.ref hs)] Z h0 (fun _ => True) (Q_snt Z p_ nm kd rq ds wn ro ho hs w_TEXT ch ne h0 n0) := by
  refine own_metV (own := ks0) (nme := "sentAs") rfl rfl (plainFor_of_name pn_16) ?_
  intro p e s m below meth c s₁ hx hby hml hown hnm X0 e0 hret hlk hZ hS0 wm0
  have hZs := hZ
  have howns := hown
  have N0 := Fr.nil n0
  rw [ef_ini1_2 m p_ hs]
  obtain ⟨T1, h1, X1, e1, E1, A1, D1, -, st1⟩ := newO X0 hx hZ hown (wd hw 99 rfl) (wd hw 100 rfl) (wd hw 97 rfl) e0 (g := (mkF m 0 #[rv p_, rv hs] [])) rfl (hb hby d56_0) (by decide) (by decide)
  obtain ⟨b1, g1⟩ : ∃ z, z = h0.size := ⟨_, rfl⟩
  rw [← g1] at A1 D1 st1
  have fr1 : n0 ≤ b1 := Nat.le_trans (own_z O0) (Nat.le_of_eq g1.symm)
  have sz1 : h0.size ≤ b1 := Nat.le_trans (Keep.refl h0 []).1 (Nat.le_of_eq g1.symm)
  have F1_name : Fld Z h1 b1 ks0 "name" ks13 .null := D1 (Or.inr (wd hw 170 rfl)) (ty := (.object ks10)) (by decide)
  have F1_kind : Fld Z h1 b1 ks0 "kind" ks5 .null := D1 (Or.inr (wd hw 172 rfl)) (ty := (.object ks9)) (by decide)
  have F1_required : Fld Z h1 b1 ks0 ks23 "Z" (.int (0 : Int32)) := D1 (Or.inr (wd hw 174 rfl)) (ty := .boolean) (by decide)
  have F1_description : Fld Z h1 b1 ks0 ks21 ks13 .null := D1 (Or.inr (wd hw 176 rfl)) (ty := (.object ks10)) (by decide)
  have F1_choices : Fld Z h1 b1 ks0 "choices" ks16 .null := D1 (Or.inr (wd hw 178 rfl)) (ty := (.object ks18)) (by decide)
  have F1_wholeNumber : Fld Z h1 b1 ks0 ks22 "Z" (.int (0 : Int32)) := D1 (Or.inr (wd hw 180 rfl)) (ty := .boolean) (by decide)
  have F1_role : Fld Z h1 b1 ks0 "role" ks7 .null := D1 (Or.inr (wd hw 182 rfl)) (ty := (.object ks1)) (by decide)
  have F1_header : Fld Z h1 b1 ks0 "header" ks15 .null := D1 (Or.inr (wd hw 184 rfl)) (ty := (.object ks14)) (by decide)
  refine own_stV (T' := T1) (g' := (mkF m 3 #[rv p_, rv hs] [(.ref b1)])) st1 ?_
  clear st1
  refine own_spV (q := 4) (S' := [(.ref b1), (.ref b1)]) (fun _ k_ => XS.dup X1.here hx rfl (hb hby d56_3) rfl rfl k_) ?_
  refine own_spV (q := 5) (S' := [(.ref p_), (.ref b1), (.ref b1)]) (fun _ k_ => XS.aloadN X1.here hx rfl (hb hby d56_4) rfl rfl  k_) ?_
  have f2 := Q1.ext E1
  refine own_kget own_ckV X1 hx hZ hown (host := "") (Or.inl (wd hw 169 rfl)) Via.refl e1 f2 (hb hby d56_5) (q := 8) rfl fun T3 X3 e3 => ?_
  refine own_spV (q := 9) (S' := [(.ref p_), (.ref nm), (.ref b1), (.ref b1)]) (fun _ k_ => XS.aloadN X3.here hx rfl (hb hby d56_8) rfl rfl  k_) ?_
  have f4 := Q2.ext E1
  refine own_kget own_ckV X3 hx hZ hown (host := "") (Or.inl (wd hw 171 rfl)) Via.refl e3 f4 (hb hby d56_9) (q := 12) rfl fun T5 X5 e5 => ?_
  refine own_spV (q := 13) (S' := [(.ref p_), (.ref kd), (.ref nm), (.ref b1), (.ref b1)]) (fun _ k_ => XS.aloadN X5.here hx rfl (hb hby d56_12) rfl rfl  k_) ?_
  have f6 := Q3.ext E1
  refine own_kget own_ckV X5 hx hZ hown (host := "") (Or.inl (wd hw 173 rfl)) Via.refl e5 f6 (hb hby d56_13) (q := 16) rfl fun T7 X7 e7 => ?_
  refine own_spV (q := 17) (S' := [(.ref p_), (.int rq), (.ref kd), (.ref nm), (.ref b1), (.ref b1)]) (fun _ k_ => XS.aloadN X7.here hx rfl (hb hby d56_16) rfl rfl  k_) ?_
  have f8 := Q4.ext E1
  refine own_kget own_ckV X7 hx hZ hown (host := "") (Or.inl (wd hw 175 rfl)) Via.refl e7 f8 (hb hby d56_17) (q := 20) rfl fun T9 X9 e9 => ?_
  refine own_spV (q := 21) (S' := [(.ref p_), (.ref ds), (.int rq), (.ref kd), (.ref nm), (.ref b1), (.ref b1)]) (fun _ k_ => XS.aloadN X9.here hx rfl (hb hby d56_20) rfl rfl  k_) ?_
  have f10 := Q5.ext E1
  refine own_kget own_ckV X9 hx hZ hown (host := "") (Or.inl (wd hw 177 rfl)) Via.refl e9 f10 (hb hby d56_21) (q := 24) rfl fun T11 X11 e11 => ?_
  refine own_spV (q := 25) (S' := [(.ref p_), (.ref ch), (.ref ds), (.int rq), (.ref kd), (.ref nm), (.ref b1), (.ref b1)]) (fun _ k_ => XS.aloadN X11.here hx rfl (hb hby d56_24) rfl rfl  k_) ?_
  have f12 := Q6.ext E1
  refine own_kget own_ckV X11 hx hZ hown (host := "") (Or.inl (wd hw 179 rfl)) Via.refl e11 f12 (hb hby d56_25) (q := 28) rfl fun T13 X13 e13 => ?_
  refine own_spV (q := 29) (S' := [(.ref p_), (.int wn), (.ref ch), (.ref ds), (.int rq), (.ref kd), (.ref nm), (.ref b1), (.ref b1)]) (fun _ k_ => XS.aloadN X13.here hx rfl (hb hby d56_28) rfl rfl  k_) ?_
  have f14 := Q7.ext E1
  refine own_kget own_ckV X13 hx hZ hown (host := "") (Or.inl (wd hw 181 rfl)) Via.refl e13 f14 (hb hby d56_29) (q := 32) rfl fun T15 X15 e15 => ?_
  refine own_spV (q := 33) (S' := [(.ref hs), (.ref ro), (.int wn), (.ref ch), (.ref ds), (.int rq), (.ref kd), (.ref nm), (.ref b1), (.ref b1)]) (fun _ k_ => XS.aloadN X15.here hx rfl (hb hby d56_32) rfl rfl  k_) ?_
  have f16 := O0.ext E1
  have f17 := (Keep.refl h0 []).ext E1
  refine own_kcS own_ckV X15 hx hZ hown hml (y := own_m43) (wd hw 377 rfl) (wd hw 378 rfl) (wd hw 110 rfl) (wd hw 379 rfl) (by decide) (rm_opof l Z a0 hw [] hs h1 n0 f16) (by decide) (by decide) (W := 9) (Nat.le_of_eq rfl) (argsL := [(.ref hs)]) (rest := [(.ref ro), (.int wn), (.ref ch), (.ref ds), (.int rq), (.ref kd), (.ref nm), (.ref b1), (.ref b1)]) (lenOf pd__Ljava_lang_Object__Ljava_util_Optional_ rfl) rfl rfl (hb hby d56_33) rfl e15 (by decide) (by decide) (c' := 2) (s' := 9) rfl rfl (q := 36) rfl fun _ T18 L18 X18 hQ18 => ?_
  obtain ⟨b18, rfl, Nq18, K18, fq18_0, fq18_1, xq18_fresh_b⟩ := hQ18
  have N18 := Fr.app N0 Nq18
  show own_V p e below s _ _ _ T18 (mkF m 36 _ [(.ref b18), (.ref ro), (.int wn), (.ref ch), (.ref ds), (.int rq), (.ref kd), (.ref nm), (.ref b1), (.ref b1)])
  have f19 := A1.keep K18
  have f20 := F1_name.keep K18 nin0
  have f21 := F1_kind.keep K18 nin0
  have f22 := F1_required.keep K18 nin0
  have f23 := F1_description.keep K18 nin0
  have f24 := F1_choices.keep K18 nin0
  have f25 := F1_wholeNumber.keep K18 nin0
  have f26 := F1_role.keep K18 nin0
  have f27 := F1_header.keep K18 nin0
  have f28 := own_ILe IL_ch E1
  have f29 := own_ILk f28 K18
  have f30 := f16.keep K18 all0
  obtain ⟨_, T31, L31, X31, hS31, hW31, hQ31, st31⟩ := own_callIV (Z := Z) X18 hx (y := own_m46) rfl hown (mvT hZ (wd hw 113 rfl)) (mvT hZ (wd hw 114 rfl)) (mvT hZ (wd hw 115 rfl)) (by decide) (own_backV (W := 1) (rm_ini_IL l Z a0 hw [] b1 nm kd rq ds wn ro b18 (.ref hs) w_TEXT ch ne T18.heap n0 f30 f19 f20 f21 f22 f23 f24 f25 f26 f27 fr1 fq18_0 fq18_1 rfl hrq hwn (fun _ => hk1) (fun _ => hk1) S_TEXT f29 hkt) hZ (wd hw 115 rfl) (wd hw 97 rfl) (by decide) (by decide) (fun _ _ => trivial)) (g := (mkF m 36 #[rv p_, rv hs] [(.ref b18), (.ref ro), (.int wn), (.ref ch), (.ref ds), (.int rq), (.ref kd), (.ref nm), (.ref b1), (.ref b1)])) rfl (by rw [hml]; rfl) (a := b1) (argsL := [(.ref nm), (.ref kd), (.int rq), (.ref ds), (.ref ch), (.int wn), (.ref ro), (.ref b18)]) (rest := [(.ref b1)]) (lenOf pd__Ljava_lang_String_Lcom_example_countersign_countersign_Parameter_Kind_ZLjava_lang_String_Ljava_util_List_ZLcom_example_countersign_countersign_Parameter_Role_Ljava_util_Optional__V rfl) rfl (by show 2 * 0 + _ ≤ _; exact Nat.le_of_eq rfl) (hb hby d56_36) rfl rfl (by decide) (by decide) (c' := 12) (s' := 305) rfl rfl hS0 (Nat.le_trans (Nat.le_trans (Nat.le_refl _) E1.1) K18.1)
  obtain ⟨rfl, Nq31, K31, fq31_0, fq31_1, fq31_2, fq31_3, fq31_4, fq31_5, fq31_6, fq31_7, fq31_8, wmq31⟩ := hQ31
  have N31 := Fr.app N18 Nq31
  have hZ31 : Z.Warmed39 (s.setVm T31.vm).vm := own_hZ hZs hS31
  have hown31 : (s.setVm T31.vm).vm.findClass ks0 = some m.cls := own_hown howns hS31
  refine own_spV (q := 39) (S' := [(.ref b1)]) st31 ?_
  clear st31
  have f32 := f17.trans K18 all0
  have f33 := f32.trans K31 (allS (Or.inr sz1) all0)
  have f34 := fq18_0.keep K31
  have ne35 : b1 ≠ b18 := Nat.ne_of_lt (Nat.lt_of_lt_of_le A1.lt xq18_fresh_b)
  have f36 := fq18_1.keep K31 (ninS (Ne.symm ne35) nin0)
  exact own_retAV X31 hS31 (Nat.le_refl _) hx hret rfl rfl hlk (hb hby d56_39) (by decide) (by decide) ⟨b1, b18, rfl, N31, f33, fq31_0, fq31_1, fq31_2, fq31_3, fq31_4, fq31_5, fq31_6, fq31_7, fq31_8, f34, f36, sz1, own_wmS wmq31 (show (s.setVm T31.vm).Warmed39 _ from X31.warmed.wide)⟩
theorem d42_0 : own_D bc42 0 (.new 56) 3 := by decide +kernel
theorem d42_3 : own_D bc42 3 (.dup) 1 := by decide +kernel
theorem d42_4 : own_D bc42 4 (.aload_n 0) 1 := by decide +kernel
theorem d42_5 : own_D bc42 5 (.getfield 55) 3 := by decide +kernel
theorem d42_8 : own_D bc42 8 (.aload_n 0) 1 := by decide +kernel
theorem d42_9 : own_D bc42 9 (.getfield 61) 3 := by decide +kernel
theorem d42_12 : own_D bc42 12 (.aload_n 0) 1 := by decide +kernel
theorem d42_13 : own_D bc42 13 (.getfield 64) 3 := by decide +kernel
theorem d42_16 : own_D bc42 16 (.aload_n 0) 1 := by decide +kernel
theorem d42_17 : own_D bc42 17 (.getfield 68) 3 := by decide +kernel
theorem d42_20 : own_D bc42 20 (.aload_n 1) 1 := by decide +kernel
theorem d42_21 : own_D bc42 21 (.aload_n 0) 1 := by decide +kernel
theorem d42_22 : own_D bc42 22 (.getfield 75) 3 := by decide +kernel
theorem d42_25 : own_D bc42 25 (.aload_n 0) 1 := by decide +kernel
theorem d42_26 : own_D bc42 26 (.getfield 78) 3 := by decide +kernel
theorem d42_29 : own_D bc42 29 (.aload_n 0) 1 := by decide +kernel
theorem d42_30 : own_D bc42 30 (.getfield 82) 3 := by decide +kernel
theorem d42_33 : own_D bc42 33 (.invokespecial 99) 3 := by decide +kernel
theorem d42_36 : own_D bc42 36 (.areturn) 1 := by decide +kernel
def Q_wch (Z : State) (p_ : Addr) (nm : Addr) (kd : Addr) (rq : Int32) (ds : Addr) (wn : Int32) (ro : Addr) (ho : Addr) (hv : Value) (w_TEXT : Addr) (ch : Addr) (LQ : Nat → Heap → Addr → Prop) (h0 : Heap) (n0 : Nat) (v : Option Value) (h : Heap) (L : List Loc) (vm : Vm) : Prop := ∃ (b : Addr) (x : Addr), (v = some (.ref b)) ∧ (Fr n0 L) ∧ (Keep h0 h []) ∧ (Exa Z h b ks0) ∧ (Fld Z h b ks0 "name" ks13 (.ref nm)) ∧ (Fld Z h b ks0 "kind" ks5 (.ref kd)) ∧ (Fld Z h b ks0 ks23 "Z" (.int rq)) ∧ (Fld Z h b ks0 ks21 ks13 (.ref ds)) ∧ (Fld Z h b ks0 "choices" ks16 (.ref x)) ∧ (Fld Z h b ks0 ks22 "Z" (.int wn)) ∧ (Fld Z h b ks0 "role" ks7 (.ref ro)) ∧ (Fld Z h b ks0 "header" ks15 (.ref ho)) ∧ (h0.size ≤ b) ∧ (LQ h0.size h x) ∧ (own_wm Z vm)
theorem rm_wch (l : Launch) (Z : State) (a0 : Array Value) (hw : own_HW a0 Z) (ws : List Jvm.Cond) (p_ : Addr) (nm : Addr) (kd : Addr) (rq : Int32) (ds : Addr) (wn : Int32) (ro : Addr) (ho : Addr) (hv : Value) (w_TEXT : Addr) (ch : Addr) (LQ : Nat → Heap → Addr → Prop) (h0 : Heap) (n0 : Nat) (O0 : Old Z n0 h0) (Q1 : Fld Z h0 p_ ks0 "name" ks13 (.ref nm)) (Q2 : Fld Z h0 p_ ks0 "kind" ks5 (.ref kd)) (Q3 : Fld Z h0 p_ ks0 ks23 "Z" (.int rq)) (Q4 : Fld Z h0 p_ ks0 ks21 ks13 (.ref ds)) (Q6 : Fld Z h0 p_ ks0 ks22 "Z" (.int wn)) (Q7 : Fld Z h0 p_ ks0 "role" ks7 (.ref ro)) (Q8 : Fld Z h0 p_ ks0 "header" ks15 (.ref ho)) (E_ho : Exa Z h0 ho ks14) (F_ho : Fld Z h0 ho ks14 "value" ks12 hv) (hhv : hv.isRef = true) (hrq : own_B rq) (hwn : own_B wn) (hT1 : ¬ wn = (0 : Int32) → kd = w_TEXT) (hT2 : ¬ own_pv hv = (0 : Int32) → kd = w_TEXT) (S_TEXT : Sta Z Z.heap ks9 "TEXT" ks5 (.ref w_TEXT)) (hk1 : kd = w_TEXT) (CPG : ∀ h1, Ext h0 h1 → Old Z n0 h1 → own_MF l own_m32 [Jvm.Cond.code own_m32 bc20 1 (some (.object ks18))] (rm4 8 3 8 130) #[.ref ch] Z h1 (fun v h L => ∃ x, (v = some (.ref x)) ∧ (Fr n0 L) ∧ (Keep h1 h []) ∧ (LQ h1.size h x) ∧ (own_IL Z h x (0 : Int32)) ∧ (h1.size ≤ x))) (hLQ : (∀ N h h' x w, LQ N h x → w < N → Keep h h' [w] → LQ N h' x) ∧ (∀ N N' h x, N ≤ N' → LQ N' h x → LQ N h x)) :
    own_MV l own_m50 (Jvm.Cond.code own_m50 bc42 2 (some (.object ks0)) :: ws) (rm4 10 14 318 181) #[(.ref p_), (.ref ch)] Z h0 (fun _ => True) (Q_wch Z p_ nm kd rq ds wn ro ho hv w_TEXT ch LQ h0 n0) := by
  refine own_metV (own := ks0) (nme := "withChoices") rfl rfl (plainFor_of_name pn_16) ?_
  intro p e s m below meth c s₁ hx hby hml hown hnm X0 e0 hret hlk hZ hS0 wm0
  have hZs := hZ
  have howns := hown
  have N0 := Fr.nil n0
  rw [ef_ini1_2 m p_ ch]
  obtain ⟨T1, h1, X1, e1, E1, A1, D1, -, st1⟩ := newO X0 hx hZ hown (wd hw 99 rfl) (wd hw 100 rfl) (wd hw 97 rfl) e0 (g := (mkF m 0 #[rv p_, rv ch] [])) rfl (hb hby d42_0) (by decide) (by decide)
  obtain ⟨b1, g1⟩ : ∃ z, z = h0.size := ⟨_, rfl⟩
  rw [← g1] at A1 D1 st1
  have fr1 : n0 ≤ b1 := Nat.le_trans (own_z O0) (Nat.le_of_eq g1.symm)
  have sz1 : h0.size ≤ b1 := Nat.le_trans (Keep.refl h0 []).1 (Nat.le_of_eq g1.symm)
  have F1_name : Fld Z h1 b1 ks0 "name" ks13 .null := D1 (Or.inr (wd hw 170 rfl)) (ty := (.object ks10)) (by decide)
  have F1_kind : Fld Z h1 b1 ks0 "kind" ks5 .null := D1 (Or.inr (wd hw 172 rfl)) (ty := (.object ks9)) (by decide)
  have F1_required : Fld Z h1 b1 ks0 ks23 "Z" (.int (0 : Int32)) := D1 (Or.inr (wd hw 174 rfl)) (ty := .boolean) (by decide)
  have F1_description : Fld Z h1 b1 ks0 ks21 ks13 .null := D1 (Or.inr (wd hw 176 rfl)) (ty := (.object ks10)) (by decide)
  have F1_choices : Fld Z h1 b1 ks0 "choices" ks16 .null := D1 (Or.inr (wd hw 178 rfl)) (ty := (.object ks18)) (by decide)
  have F1_wholeNumber : Fld Z h1 b1 ks0 ks22 "Z" (.int (0 : Int32)) := D1 (Or.inr (wd hw 180 rfl)) (ty := .boolean) (by decide)
  have F1_role : Fld Z h1 b1 ks0 "role" ks7 .null := D1 (Or.inr (wd hw 182 rfl)) (ty := (.object ks1)) (by decide)
  have F1_header : Fld Z h1 b1 ks0 "header" ks15 .null := D1 (Or.inr (wd hw 184 rfl)) (ty := (.object ks14)) (by decide)
  refine own_stV (T' := T1) (g' := (mkF m 3 #[rv p_, rv ch] [(.ref b1)])) st1 ?_
  clear st1
  refine own_spV (q := 4) (S' := [(.ref b1), (.ref b1)]) (fun _ k_ => XS.dup X1.here hx rfl (hb hby d42_3) rfl rfl k_) ?_
  refine own_spV (q := 5) (S' := [(.ref p_), (.ref b1), (.ref b1)]) (fun _ k_ => XS.aloadN X1.here hx rfl (hb hby d42_4) rfl rfl  k_) ?_
  have f2 := Q1.ext E1
  refine own_kget own_ckV X1 hx hZ hown (host := "") (Or.inl (wd hw 169 rfl)) Via.refl e1 f2 (hb hby d42_5) (q := 8) rfl fun T3 X3 e3 => ?_
  refine own_spV (q := 9) (S' := [(.ref p_), (.ref nm), (.ref b1), (.ref b1)]) (fun _ k_ => XS.aloadN X3.here hx rfl (hb hby d42_8) rfl rfl  k_) ?_
  have f4 := Q2.ext E1
  refine own_kget own_ckV X3 hx hZ hown (host := "") (Or.inl (wd hw 171 rfl)) Via.refl e3 f4 (hb hby d42_9) (q := 12) rfl fun T5 X5 e5 => ?_
  refine own_spV (q := 13) (S' := [(.ref p_), (.ref kd), (.ref nm), (.ref b1), (.ref b1)]) (fun _ k_ => XS.aloadN X5.here hx rfl (hb hby d42_12) rfl rfl  k_) ?_
  have f6 := Q3.ext E1
  refine own_kget own_ckV X5 hx hZ hown (host := "") (Or.inl (wd hw 173 rfl)) Via.refl e5 f6 (hb hby d42_13) (q := 16) rfl fun T7 X7 e7 => ?_
  refine own_spV (q := 17) (S' := [(.ref p_), (.int rq), (.ref kd), (.ref nm), (.ref b1), (.ref b1)]) (fun _ k_ => XS.aloadN X7.here hx rfl (hb hby d42_16) rfl rfl  k_) ?_
  have f8 := Q4.ext E1
  refine own_kget own_ckV X7 hx hZ hown (host := "") (Or.inl (wd hw 175 rfl)) Via.refl e7 f8 (hb hby d42_17) (q := 20) rfl fun T9 X9 e9 => ?_
  refine own_spV (q := 21) (S' := [(.ref ch), (.ref ds), (.int rq), (.ref kd), (.ref nm), (.ref b1), (.ref b1)]) (fun _ k_ => XS.aloadN X9.here hx rfl (hb hby d42_20) rfl rfl  k_) ?_
  refine own_spV (q := 22) (S' := [(.ref p_), (.ref ch), (.ref ds), (.int rq), (.ref kd), (.ref nm), (.ref b1), (.ref b1)]) (fun _ k_ => XS.aloadN X9.here hx rfl (hb hby d42_21) rfl rfl  k_) ?_
  have f10 := Q6.ext E1
  refine own_kget own_ckV X9 hx hZ hown (host := "") (Or.inl (wd hw 179 rfl)) Via.refl e9 f10 (hb hby d42_22) (q := 25) rfl fun T11 X11 e11 => ?_
  refine own_spV (q := 26) (S' := [(.ref p_), (.int wn), (.ref ch), (.ref ds), (.int rq), (.ref kd), (.ref nm), (.ref b1), (.ref b1)]) (fun _ k_ => XS.aloadN X11.here hx rfl (hb hby d42_25) rfl rfl  k_) ?_
  have f12 := Q7.ext E1
  refine own_kget own_ckV X11 hx hZ hown (host := "") (Or.inl (wd hw 181 rfl)) Via.refl e11 f12 (hb hby d42_26) (q := 29) rfl fun T13 X13 e13 => ?_
  refine own_spV (q := 30) (S' := [(.ref p_), (.ref ro), (.int wn), (.ref ch), (.ref ds), (.int rq), (.ref kd), (.ref nm), (.ref b1), (.ref b1)]) (fun _ k_ => XS.aloadN X13.here hx rfl (hb hby d42_29) rfl rfl  k_) ?_
  have f14 := Q8.ext E1
  refine own_kget own_ckV X13 hx hZ hown (host := "") (Or.inl (wd hw 183 rfl)) Via.refl e13 f14 (hb hby d42_30) (q := 33) rfl fun T15 X15 e15 => ?_
  have f16 := E_ho.ext E1
  have f17 := F_ho.ext E1
  have f18 := own_extT (own_extR h0) E1
  have f19 := O0.ext E1
  obtain ⟨_, T20, L20, X20, hS20, hW20, hQ20, st20⟩ := own_callIV (Z := Z) X15 hx (y := own_m46) rfl hown (mvT hZ (wd hw 113 rfl)) (mvT hZ (wd hw 114 rfl)) (mvT hZ (wd hw 115 rfl)) (by decide) (own_backV (W := 1) (rm_ini_AL l Z a0 hw [] b1 nm kd rq ds wn ro ho hv w_TEXT ch LQ h1 n0 f19 A1 F1_name F1_kind F1_required F1_description F1_choices F1_wholeNumber F1_role F1_header fr1 f16 f17 hhv hrq hwn hT1 hT2 S_TEXT hk1 (fun h1 E_ O_ => CPG h1 (own_extT f18 E_) O_) hLQ) hZ (wd hw 115 rfl) (wd hw 97 rfl) (by decide) (by decide) (fun _ _ => trivial)) (g := (mkF m 33 #[rv p_, rv ch] [(.ref ho), (.ref ro), (.int wn), (.ref ch), (.ref ds), (.int rq), (.ref kd), (.ref nm), (.ref b1), (.ref b1)])) rfl (by rw [hml]; rfl) (a := b1) (argsL := [(.ref nm), (.ref kd), (.int rq), (.ref ds), (.ref ch), (.int wn), (.ref ro), (.ref ho)]) (rest := [(.ref b1)]) (lenOf pd__Ljava_lang_String_Lcom_example_countersign_countersign_Parameter_Kind_ZLjava_lang_String_Ljava_util_List_ZLcom_example_countersign_countersign_Parameter_Role_Ljava_util_Optional__V rfl) rfl (by show 2 * 0 + _ ≤ _; exact Nat.le_of_eq rfl) (hb hby d42_33) rfl e15 (by decide) (by decide) (c' := 14) (s' := 318) rfl rfl hS0 (Nat.le_trans (Nat.le_refl _) E1.1)
  obtain ⟨x20, rfl, Nq20, K20, fq20_0, fq20_1, fq20_2, fq20_3, fq20_4, fq20_5, fq20_6, fq20_7, fq20_8, xq20_LQx, wmq20⟩ := hQ20
  have N20 := Fr.app N0 Nq20
  have hZ20 : Z.Warmed39 (s.setVm T20.vm).vm := own_hZ hZs hS20
  have hown20 : (s.setVm T20.vm).vm.findClass ks0 = some m.cls := own_hown howns hS20
  refine own_spV (q := 36) (S' := [(.ref b1)]) st20 ?_
  clear st20
  have f21 := (Keep.refl h0 []).ext E1
  have f22 := f21.trans K20 (allS (Or.inr sz1) all0)
  exact own_retAV X20 hS20 (Nat.le_refl _) hx hret rfl rfl hlk (hb hby d42_36) (by decide) (by decide) ⟨b1, x20, rfl, N20, f22, fq20_0, fq20_1, fq20_2, fq20_3, fq20_4, fq20_5, fq20_6, fq20_7, fq20_8, sz1, hLQ.2 _ _ _ _ f18.1 xq20_LQx, own_wmS wmq20 (show (s.setVm T20.vm).Warmed39 _ from X20.warmed.wide)⟩
def own_LQ1 (Z : State) (kO : ClassId) (y0 em : Addr) (N : Nat) (h : Heap) (x : Addr) : Prop := (Exa Z h x ks4) ∧ (Fld Z h x ks4 "e0" ks12 (.ref y0)) ∧ (Fld Z h x ks4 "e1" ks12 (.ref em)) ∧ N ≤ x
theorem own_LQC1 {Z : State} {kO : ClassId} {y0 em : Addr} : (∀ N h h' x w, own_LQ1 Z kO y0 em N h x → w < N → Keep h h' [w] → own_LQ1 Z kO y0 em N h' x) ∧ (∀ N N' h x, N ≤ N' → own_LQ1 Z kO y0 em N' h x → own_LQ1 Z kO y0 em N h x) := by
  refine ⟨fun N h h' x w q hw_ K => ?_, fun N N' h x hN q => ?_⟩
  · obtain ⟨q1, q2, q3, q4⟩ := q; exact ⟨q1.keep K, q2.keep K (ninS (Nat.ne_of_gt (Nat.lt_of_lt_of_le hw_ q4)) nin0), q3.keep K (ninS (Nat.ne_of_gt (Nat.lt_of_lt_of_le hw_ q4)) nin0), q4⟩
  · obtain ⟨q1, q2, q3, q4⟩ := q; exact ⟨q1, q2, q3, Nat.le_trans hN q4⟩
theorem own_CP1 {l : Launch} {Z : State} {a0 : Array Value} (hw : own_HW a0 Z) {a : Addr} {t : Addr} {kO : ClassId} {mir : Addr} {em : Addr} {y0 : Addr} {h0 : Heap} {n0 : Nat} (E_a : Exa Z h0 a ks6) (Fe : Fld Z h0 a ks6 ks20 ks8 (.ref t)) (Fz : Fld Z h0 a ks6 "size" "I" (.int (1 : Int32))) (V_t : Arv Z h0 t kO (.object ks2) (10 : Int32) [(.ref y0), .null, .null, .null, .null, .null, .null, .null, .null, .null] .null) (OV : Ovr Z kO ks2) (FC : Z.vm.findClass ks8 = some kO) (MIR : own_Mir Z ks8 mir) (SEm : Sta Z Z.heap ks19 "EMPTY" ks12 (.ref em)) (I_y0 : Ins Z h0 y0 ks2 true) : ∀ h1, Ext h0 h1 → Old Z n0 h1 → own_MF l own_m32 [Jvm.Cond.code own_m32 bc20 1 (some (.object ks18))] (rm4 8 3 8 130) #[.ref a] Z h1 (fun v h L => ∃ x, (v = some (.ref x)) ∧ (Fr n0 L) ∧ (Keep h1 h []) ∧ (own_LQ1 Z kO y0 em h1.size h x) ∧ (own_IL Z h x (0 : Int32)) ∧ (h1.size ≤ x)) := fun h1 E_ O_ => own_mono (rm_cpy_1 l Z a0 hw [] a t kO mir em y0 h1 n0 O_ (E_a.ext E_) (Fe.ext E_) (Fz.ext E_) (V_t.ext E_) OV FC MIR SEm (Ins.ext E_ I_y0)) fun v h L q => by
  obtain ⟨x, rfl, q1, q2, q3, q4, q5, q6⟩ := q
  exact ⟨x, rfl, q1, q2, ⟨q3, q4, q5, q6⟩, Or.inl ⟨q3, rfl⟩, q6⟩
def own_LQ2 (Z : State) (kO : ClassId) (y0 y1 : Addr) (N : Nat) (h : Heap) (x : Addr) : Prop := (Exa Z h x ks4) ∧ (Fld Z h x ks4 "e0" ks12 (.ref y0)) ∧ (Fld Z h x ks4 "e1" ks12 (.ref y1)) ∧ N ≤ x
theorem own_LQC2 {Z : State} {kO : ClassId} {y0 y1 : Addr} : (∀ N h h' x w, own_LQ2 Z kO y0 y1 N h x → w < N → Keep h h' [w] → own_LQ2 Z kO y0 y1 N h' x) ∧ (∀ N N' h x, N ≤ N' → own_LQ2 Z kO y0 y1 N' h x → own_LQ2 Z kO y0 y1 N h x) := by
  refine ⟨fun N h h' x w q hw_ K => ?_, fun N N' h x hN q => ?_⟩
  · obtain ⟨q1, q2, q3, q4⟩ := q; exact ⟨q1.keep K, q2.keep K (ninS (Nat.ne_of_gt (Nat.lt_of_lt_of_le hw_ q4)) nin0), q3.keep K (ninS (Nat.ne_of_gt (Nat.lt_of_lt_of_le hw_ q4)) nin0), q4⟩
  · obtain ⟨q1, q2, q3, q4⟩ := q; exact ⟨q1, q2, q3, Nat.le_trans hN q4⟩
theorem own_CP2 {l : Launch} {Z : State} {a0 : Array Value} (hw : own_HW a0 Z) {a : Addr} {t : Addr} {kO : ClassId} {mir : Addr} {y0 : Addr} {y1 : Addr} {h0 : Heap} {n0 : Nat} (E_a : Exa Z h0 a ks6) (Fe : Fld Z h0 a ks6 ks20 ks8 (.ref t)) (Fz : Fld Z h0 a ks6 "size" "I" (.int (2 : Int32))) (V_t : Arv Z h0 t kO (.object ks2) (10 : Int32) [(.ref y0), (.ref y1), .null, .null, .null, .null, .null, .null, .null, .null] .null) (OV : Ovr Z kO ks2) (FC : Z.vm.findClass ks8 = some kO) (MIR : own_Mir Z ks8 mir) (I_y0 : Ins Z h0 y0 ks2 true) (I_y1 : Ins Z h0 y1 ks2 true) : ∀ h1, Ext h0 h1 → Old Z n0 h1 → own_MF l own_m32 [Jvm.Cond.code own_m32 bc20 1 (some (.object ks18))] (rm4 8 3 8 130) #[.ref a] Z h1 (fun v h L => ∃ x, (v = some (.ref x)) ∧ (Fr n0 L) ∧ (Keep h1 h []) ∧ (own_LQ2 Z kO y0 y1 h1.size h x) ∧ (own_IL Z h x (0 : Int32)) ∧ (h1.size ≤ x)) := fun h1 E_ O_ => own_mono (rm_cpy_2 l Z a0 hw [] a t kO mir y0 y1 h1 n0 O_ (E_a.ext E_) (Fe.ext E_) (Fz.ext E_) (V_t.ext E_) OV FC MIR (Ins.ext E_ I_y0) (Ins.ext E_ I_y1)) fun v h L q => by
  obtain ⟨x, rfl, q1, q2, q3, q4, q5, q6⟩ := q
  exact ⟨x, rfl, q1, q2, ⟨q3, q4, q5, q6⟩, Or.inl ⟨q3, rfl⟩, q6⟩
def own_LQ3 (Z : State) (kO : ClassId) (y0 y1 y2 : Addr) (N : Nat) (h : Heap) (x : Addr) : Prop := ∃ uu, (Exa Z h x ks11) ∧ (Fld Z h x ks11 "elements" ks8 (.ref uu)) ∧ (Fld Z h x ks11 "allowNulls" "Z" (.int (0 : Int32))) ∧ (Arv Z h uu kO (.object ks2) (3 : Int32) [(.ref y0), (.ref y1), (.ref y2)] .null) ∧ N ≤ x ∧ N ≤ uu
theorem own_LQC3 {Z : State} {kO : ClassId} {y0 y1 y2 : Addr} : (∀ N h h' x w, own_LQ3 Z kO y0 y1 y2 N h x → w < N → Keep h h' [w] → own_LQ3 Z kO y0 y1 y2 N h' x) ∧ (∀ N N' h x, N ≤ N' → own_LQ3 Z kO y0 y1 y2 N' h x → own_LQ3 Z kO y0 y1 y2 N h x) := by
  refine ⟨fun N h h' x w q hw_ K => ?_, fun N N' h x hN q => ?_⟩
  · obtain ⟨uu, q1, q2, q3, qv, q4, q5⟩ := q; exact ⟨uu, q1.keep K, q2.keep K (ninS (Nat.ne_of_gt (Nat.lt_of_lt_of_le hw_ q4)) nin0), q3.keep K (ninS (Nat.ne_of_gt (Nat.lt_of_lt_of_le hw_ q4)) nin0), qv.keep K (ninS (Nat.ne_of_gt (Nat.lt_of_lt_of_le hw_ q5)) nin0), q4, q5⟩
  · obtain ⟨uu, q1, q2, q3, qv, q4, q5⟩ := q; exact ⟨uu, q1, q2, q3, qv, Nat.le_trans hN q4, Nat.le_trans hN q5⟩
theorem own_CP3 {l : Launch} {Z : State} {a0 : Array Value} (hw : own_HW a0 Z) {a : Addr} {t : Addr} {kO : ClassId} {mir : Addr} {y0 : Addr} {y1 : Addr} {y2 : Addr} {h0 : Heap} {n0 : Nat} (E_a : Exa Z h0 a ks6) (Fe : Fld Z h0 a ks6 ks20 ks8 (.ref t)) (Fz : Fld Z h0 a ks6 "size" "I" (.int (3 : Int32))) (V_t : Arv Z h0 t kO (.object ks2) (10 : Int32) [(.ref y0), (.ref y1), (.ref y2), .null, .null, .null, .null, .null, .null, .null] .null) (OV : Ovr Z kO ks2) (FC : Z.vm.findClass ks8 = some kO) (MIR : own_Mir Z ks8 mir) (I_y0 : Ins Z h0 y0 ks2 true) (I_y1 : Ins Z h0 y1 ks2 true) (I_y2 : Ins Z h0 y2 ks2 true) : ∀ h1, Ext h0 h1 → Old Z n0 h1 → own_MF l own_m32 [Jvm.Cond.code own_m32 bc20 1 (some (.object ks18))] (rm4 8 3 8 130) #[.ref a] Z h1 (fun v h L => ∃ x, (v = some (.ref x)) ∧ (Fr n0 L) ∧ (Keep h1 h []) ∧ (own_LQ3 Z kO y0 y1 y2 h1.size h x) ∧ (own_IL Z h x (0 : Int32)) ∧ (h1.size ≤ x)) := fun h1 E_ O_ => own_mono (rm_cpy_3 l Z a0 hw [] a t kO mir y0 y1 y2 h1 n0 O_ (E_a.ext E_) (Fe.ext E_) (Fz.ext E_) (V_t.ext E_) OV FC MIR (Ins.ext E_ I_y0) (Ins.ext E_ I_y1) (Ins.ext E_ I_y2)) fun v h L q => by
  obtain ⟨x, uu, rfl, q1, q2, q3, q4, q5, qv, q6, q7⟩ := q
  exact ⟨x, rfl, q1, q2, ⟨uu, q3, q4, q5, qv, q6, q7⟩, own_ILn q3 q5 q4 qv (by decide), q6⟩
theorem d14_0 : own_D bc14 0 (.new 56) 3 := by decide +kernel
theorem d14_3 : own_D bc14 3 (.dup) 1 := by decide +kernel
theorem d14_4 : own_D bc14 4 (.aload_n 0) 1 := by decide +kernel
theorem d14_5 : own_D bc14 5 (.aload_n 1) 1 := by decide +kernel
theorem d14_6 : own_D bc14 6 (.iconst 0) 1 := by decide +kernel
theorem d14_7 : own_D bc14 7 (.aload_n 2) 1 := by decide +kernel
theorem d14_8 : own_D bc14 8 (.invokestatic 86) 3 := by decide +kernel
theorem d14_11 : own_D bc14 11 (.iconst 0) 1 := by decide +kernel
theorem d14_12 : own_D bc14 12 (.getstatic 90) 3 := by decide +kernel
theorem d14_15 : own_D bc14 15 (.invokestatic 95) 3 := by decide +kernel
theorem d14_18 : own_D bc14 18 (.invokespecial 99) 3 := by decide +kernel
theorem d14_21 : own_D bc14 21 (.areturn) 1 := by decide +kernel
theorem pd___Ljava_util_List_ : parseMethodDescriptor "()Ljava/util/List;" = some ⟨[], some (.object "java/util/List")⟩ := by decide +kernel
theorem pd___Ljava_util_Optional_ : parseMethodDescriptor "()Ljava/util/Optional;" = some ⟨[], some (.object "java/util/Optional")⟩ := by decide +kernel
def Q_mk_optional (Z : State) (nm : Addr) (kd : Addr) (ds : Addr) (w_OPTION : Addr) (w_TEXT : Addr) (el : Addr) (oe : Addr) (h0 : Heap) (n0 : Nat) (v : Option Value) (h : Heap) (L : List Loc) (vm : Vm) : Prop := ∃ (b : Addr), (v = some (.ref b)) ∧ (Fr n0 L) ∧ (Keep h0 h []) ∧ (Exa Z h b ks0) ∧ (Fld Z h b ks0 "name" ks13 (.ref nm)) ∧ (Fld Z h b ks0 "kind" ks5 (.ref kd)) ∧ (Fld Z h b ks0 ks23 "Z" (.int (0 : Int32))) ∧ (Fld Z h b ks0 ks21 ks13 (.ref ds)) ∧ (Fld Z h b ks0 "choices" ks16 (.ref el)) ∧ (Fld Z h b ks0 ks22 "Z" (.int (0 : Int32))) ∧ (Fld Z h b ks0 "role" ks7 (.ref w_OPTION)) ∧ (Fld Z h b ks0 "header" ks15 (.ref oe)) ∧ (h0.size ≤ b) ∧ (own_wm Z vm)
theorem rm_mk_optional (l : Launch) (Z : State) (a0 : Array Value) (hw : own_HW a0 Z) (ws : List Jvm.Cond) (nm : Addr) (kd : Addr) (ds : Addr) (w_OPTION : Addr) (w_TEXT : Addr) (el : Addr) (oe : Addr) (h0 : Heap) (n0 : Nat) (O0 : Old Z n0 h0) (S_el : Sta Z Z.heap ks19 "EMPTY_LIST" "Ljava/util/ImmutableCollections$ListN;" (.ref el)) (IL_el : own_IL Z Z.heap el (1 : Int32)) (S_oe : Sta Z Z.heap ks14 "EMPTY" ks15 (.ref oe)) (X_oe : Exa Z Z.heap oe ks14) (F_oe : Fld Z Z.heap oe ks14 "value" ks12 .null) (S_TEXT : Sta Z Z.heap ks9 "TEXT" ks5 (.ref w_TEXT)) (S_OPTION : Sta Z Z.heap ks1 "OPTION" ks7 (.ref w_OPTION)) :
    own_MV l own_m51 (Jvm.Cond.code own_m51 bc14 3 (some (.object ks0)) :: ws) (rm4 10 11 304 181) #[(.ref nm), (.ref kd), (.ref ds)] Z h0 (fun _ => True) (Q_mk_optional Z nm kd ds w_OPTION w_TEXT el oe h0 n0) := by
  refine own_metV (own := ks0) (nme := "optional") rfl rfl (plainFor_of_name pn_16) ?_
  intro p e s m below meth c s₁ hx hby hml hown hnm X0 e0 hret hlk hZ hS0 wm0
  have hZs := hZ
  have howns := hown
  have N0 := Fr.nil n0
  rw [ef_l12b m nm kd ds]
  obtain ⟨T1, h1, X1, e1, E1, A1, D1, -, st1⟩ := newO X0 hx hZ hown (wd hw 99 rfl) (wd hw 100 rfl) (wd hw 97 rfl) e0 (g := (mkF m 0 #[rv nm, rv kd, rv ds] [])) rfl (hb hby d14_0) (by decide) (by decide)
  obtain ⟨b1, g1⟩ : ∃ z, z = h0.size := ⟨_, rfl⟩
  rw [← g1] at A1 D1 st1
  have fr1 : n0 ≤ b1 := Nat.le_trans (own_z O0) (Nat.le_of_eq g1.symm)
  have sz1 : h0.size ≤ b1 := Nat.le_trans (Keep.refl h0 []).1 (Nat.le_of_eq g1.symm)
  have F1_name : Fld Z h1 b1 ks0 "name" ks13 .null := D1 (Or.inr (wd hw 170 rfl)) (ty := (.object ks10)) (by decide)
  have F1_kind : Fld Z h1 b1 ks0 "kind" ks5 .null := D1 (Or.inr (wd hw 172 rfl)) (ty := (.object ks9)) (by decide)
  have F1_required : Fld Z h1 b1 ks0 ks23 "Z" (.int (0 : Int32)) := D1 (Or.inr (wd hw 174 rfl)) (ty := .boolean) (by decide)
  have F1_description : Fld Z h1 b1 ks0 ks21 ks13 .null := D1 (Or.inr (wd hw 176 rfl)) (ty := (.object ks10)) (by decide)
  have F1_choices : Fld Z h1 b1 ks0 "choices" ks16 .null := D1 (Or.inr (wd hw 178 rfl)) (ty := (.object ks18)) (by decide)
  have F1_wholeNumber : Fld Z h1 b1 ks0 ks22 "Z" (.int (0 : Int32)) := D1 (Or.inr (wd hw 180 rfl)) (ty := .boolean) (by decide)
  have F1_role : Fld Z h1 b1 ks0 "role" ks7 .null := D1 (Or.inr (wd hw 182 rfl)) (ty := (.object ks1)) (by decide)
  have F1_header : Fld Z h1 b1 ks0 "header" ks15 .null := D1 (Or.inr (wd hw 184 rfl)) (ty := (.object ks14)) (by decide)
  refine own_stV (T' := T1) (g' := (mkF m 3 #[rv nm, rv kd, rv ds] [(.ref b1)])) st1 ?_
  clear st1
  refine own_spV (q := 4) (S' := [(.ref b1), (.ref b1)]) (fun _ k_ => XS.dup X1.here hx rfl (hb hby d14_3) rfl rfl k_) ?_
  refine own_spV (q := 5) (S' := [(.ref nm), (.ref b1), (.ref b1)]) (fun _ k_ => XS.aloadN X1.here hx rfl (hb hby d14_4) rfl rfl  k_) ?_
  refine own_spV (q := 6) (S' := [(.ref kd), (.ref nm), (.ref b1), (.ref b1)]) (fun _ k_ => XS.aloadN X1.here hx rfl (hb hby d14_5) rfl rfl  k_) ?_
  refine own_spV (q := 7) (S' := [(.int (0 : Int32)), (.ref kd), (.ref nm), (.ref b1), (.ref b1)]) (fun _ k_ => XS.iconst X1.here hx rfl (hb hby d14_6) k_) ?_
  refine own_spV (q := 8) (S' := [(.ref ds), (.int (0 : Int32)), (.ref kd), (.ref nm), (.ref b1), (.ref b1)]) (fun _ k_ => XS.aloadN X1.here hx rfl (hb hby d14_7) rfl rfl  k_) ?_
  have f2 := O0.ext E1
  refine own_kcS own_ckV X1 hx hZ hown hml (y := own_m39) (wd hw 101 rfl) (wd hw 102 rfl) (wd hw 103 rfl) (wd hw 104 rfl) (by decide) (rm_lof0 l Z a0 hw [] el h1 n0 f2 S_el IL_el) (by decide) (by decide) (W := 6) (Nat.le_of_eq rfl) (argsL := []) (rest := [(.ref ds), (.int (0 : Int32)), (.ref kd), (.ref nm), (.ref b1), (.ref b1)]) (lenOf pd___Ljava_util_List_ rfl) rfl rfl (hb hby d14_8) rfl e1 (by decide) (by decide) (c' := 1) (s' := 8) rfl rfl (q := 11) rfl fun _ T3 L3 X3 hQ3 => ?_
  obtain ⟨rfl, Nq3, eq3⟩ := hQ3
  have N3 := Fr.app N0 Nq3
  show own_V p e below s _ _ _ T3 (mkF m 11 _ [(.ref el), (.ref ds), (.int (0 : Int32)), (.ref kd), (.ref nm), (.ref b1), (.ref b1)])
  refine own_spV (q := 12) (S' := [(.int (0 : Int32)), (.ref el), (.ref ds), (.int (0 : Int32)), (.ref kd), (.ref nm), (.ref b1), (.ref b1)]) (fun _ k_ => XS.iconst X3.here hx rfl (hb hby d14_11) k_) ?_
  refine own_kgs own_ckV X3 hx hZ hown (host := "") (Or.inl (wd hw 107 rfl)) Via.refl eq3 (S_OPTION.ext f2.2) (hb hby d14_12) (q := 15) rfl fun T4 X4 e4 => ?_
  refine own_kcS own_ckV X4 hx hZ hown hml (y := own_m38) (wd hw 108 rfl) (wd hw 109 rfl) (wd hw 110 rfl) (wd hw 111 rfl) (by decide) (rm_opem l Z a0 hw [] oe h1 n0 f2 S_oe) (by decide) (by decide) (W := 9) (Nat.le_of_eq rfl) (argsL := []) (rest := [(.ref w_OPTION), (.int (0 : Int32)), (.ref el), (.ref ds), (.int (0 : Int32)), (.ref kd), (.ref nm), (.ref b1), (.ref b1)]) (lenOf pd___Ljava_util_Optional_ rfl) rfl rfl (hb hby d14_15) rfl e4 (by decide) (by decide) (c' := 1) (s' := 8) rfl rfl (q := 18) rfl fun _ T5 L5 X5 hQ5 => ?_
  obtain ⟨rfl, Nq5, eq5⟩ := hQ5
  have N5 := Fr.app N3 Nq5
  show own_V p e below s _ _ _ T5 (mkF m 18 _ [(.ref oe), (.ref w_OPTION), (.int (0 : Int32)), (.ref el), (.ref ds), (.int (0 : Int32)), (.ref kd), (.ref nm), (.ref b1), (.ref b1)])
  obtain ⟨_, T6, L6, X6, hS6, hW6, hQ6, st6⟩ := own_callIV (Z := Z) X5 hx (y := own_m46) rfl hown (mvT hZ (wd hw 113 rfl)) (mvT hZ (wd hw 114 rfl)) (mvT hZ (wd hw 115 rfl)) (by decide) (own_backV (W := 1) (rm_ini_IL l Z a0 hw [] b1 nm kd (0 : Int32) ds (0 : Int32) w_OPTION oe .null w_TEXT el (1 : Int32) h1 n0 f2 A1 F1_name F1_kind F1_required F1_description F1_choices F1_wholeNumber F1_role F1_header fr1 (X_oe.ext f2.2) (F_oe.ext f2.2) rfl (Or.inl rfl) (Or.inl rfl) (fun q => absurd rfl q) (fun q => absurd rfl q) S_TEXT (own_ILe IL_el f2.2) (fun q => absurd q (by decide))) hZ (wd hw 115 rfl) (wd hw 97 rfl) (by decide) (by decide) (fun _ _ => trivial)) (g := (mkF m 18 #[rv nm, rv kd, rv ds] [(.ref oe), (.ref w_OPTION), (.int (0 : Int32)), (.ref el), (.ref ds), (.int (0 : Int32)), (.ref kd), (.ref nm), (.ref b1), (.ref b1)])) rfl (by rw [hml]; rfl) (a := b1) (argsL := [(.ref nm), (.ref kd), (.int (0 : Int32)), (.ref ds), (.ref el), (.int (0 : Int32)), (.ref w_OPTION), (.ref oe)]) (rest := [(.ref b1)]) (lenOf pd__Ljava_lang_String_Lcom_example_countersign_countersign_Parameter_Kind_ZLjava_lang_String_Ljava_util_List_ZLcom_example_countersign_countersign_Parameter_Role_Ljava_util_Optional__V rfl) rfl (by show 2 * 0 + _ ≤ _; exact Nat.le_of_eq rfl) (hb hby d14_18) rfl eq5 (by decide) (by decide) (c' := 11) (s' := 304) rfl rfl hS0 (Nat.le_trans (Nat.le_refl _) E1.1)
  obtain ⟨rfl, Nq6, K6, fq6_0, fq6_1, fq6_2, fq6_3, fq6_4, fq6_5, fq6_6, fq6_7, fq6_8, wmq6⟩ := hQ6
  have N6 := Fr.app N5 Nq6
  have hZ6 : Z.Warmed39 (s.setVm T6.vm).vm := own_hZ hZs hS6
  have hown6 : (s.setVm T6.vm).vm.findClass ks0 = some m.cls := own_hown howns hS6
  refine own_spV (q := 21) (S' := [(.ref b1)]) st6 ?_
  clear st6
  have f7 := (Keep.refl h0 []).ext E1
  have f8 := f7.trans K6 (allS (Or.inr sz1) all0)
  exact own_retAV X6 hS6 (Nat.le_refl _) hx hret rfl rfl hlk (hb hby d14_21) (by decide) (by decide) ⟨b1, rfl, N6, f8, fq6_0, fq6_1, fq6_2, fq6_3, fq6_4, fq6_5, fq6_6, fq6_7, fq6_8, sz1, own_wmS wmq6 (show (s.setVm T6.vm).Warmed39 _ from X6.warmed.wide)⟩
theorem d36_0 : own_D bc36 0 (.new 56) 3 := by decide +kernel
theorem d36_3 : own_D bc36 3 (.dup) 1 := by decide +kernel
theorem d36_4 : own_D bc36 4 (.aload_n 0) 1 := by decide +kernel
theorem d36_5 : own_D bc36 5 (.aload_n 1) 1 := by decide +kernel
theorem d36_6 : own_D bc36 6 (.iconst 1) 1 := by decide +kernel
theorem d36_7 : own_D bc36 7 (.aload_n 2) 1 := by decide +kernel
theorem d36_8 : own_D bc36 8 (.invokestatic 86) 3 := by decide +kernel
theorem d36_11 : own_D bc36 11 (.iconst 0) 1 := by decide +kernel
theorem d36_12 : own_D bc36 12 (.getstatic 90) 3 := by decide +kernel
theorem d36_15 : own_D bc36 15 (.invokestatic 95) 3 := by decide +kernel
theorem d36_18 : own_D bc36 18 (.invokespecial 99) 3 := by decide +kernel
theorem d36_21 : own_D bc36 21 (.areturn) 1 := by decide +kernel
def Q_mk_required (Z : State) (nm : Addr) (kd : Addr) (ds : Addr) (w_OPTION : Addr) (w_TEXT : Addr) (el : Addr) (oe : Addr) (h0 : Heap) (n0 : Nat) (v : Option Value) (h : Heap) (L : List Loc) (vm : Vm) : Prop := ∃ (b : Addr), (v = some (.ref b)) ∧ (Fr n0 L) ∧ (Keep h0 h []) ∧ (Exa Z h b ks0) ∧ (Fld Z h b ks0 "name" ks13 (.ref nm)) ∧ (Fld Z h b ks0 "kind" ks5 (.ref kd)) ∧ (Fld Z h b ks0 ks23 "Z" (.int (1 : Int32))) ∧ (Fld Z h b ks0 ks21 ks13 (.ref ds)) ∧ (Fld Z h b ks0 "choices" ks16 (.ref el)) ∧ (Fld Z h b ks0 ks22 "Z" (.int (0 : Int32))) ∧ (Fld Z h b ks0 "role" ks7 (.ref w_OPTION)) ∧ (Fld Z h b ks0 "header" ks15 (.ref oe)) ∧ (h0.size ≤ b) ∧ (own_wm Z vm)
theorem rm_mk_required (l : Launch) (Z : State) (a0 : Array Value) (hw : own_HW a0 Z) (ws : List Jvm.Cond) (nm : Addr) (kd : Addr) (ds : Addr) (w_OPTION : Addr) (w_TEXT : Addr) (el : Addr) (oe : Addr) (h0 : Heap) (n0 : Nat) (O0 : Old Z n0 h0) (S_el : Sta Z Z.heap ks19 "EMPTY_LIST" "Ljava/util/ImmutableCollections$ListN;" (.ref el)) (IL_el : own_IL Z Z.heap el (1 : Int32)) (S_oe : Sta Z Z.heap ks14 "EMPTY" ks15 (.ref oe)) (X_oe : Exa Z Z.heap oe ks14) (F_oe : Fld Z Z.heap oe ks14 "value" ks12 .null) (S_TEXT : Sta Z Z.heap ks9 "TEXT" ks5 (.ref w_TEXT)) (S_OPTION : Sta Z Z.heap ks1 "OPTION" ks7 (.ref w_OPTION)) :
    own_MV l own_m52 (Jvm.Cond.code own_m52 bc36 3 (some (.object ks0)) :: ws) (rm4 10 11 304 181) #[(.ref nm), (.ref kd), (.ref ds)] Z h0 (fun _ => True) (Q_mk_required Z nm kd ds w_OPTION w_TEXT el oe h0 n0) := by
  refine own_metV (own := ks0) (nme := ks23) rfl rfl (plainFor_of_name pn_16) ?_
  intro p e s m below meth c s₁ hx hby hml hown hnm X0 e0 hret hlk hZ hS0 wm0
  have hZs := hZ
  have howns := hown
  have N0 := Fr.nil n0
  rw [ef_l12b m nm kd ds]
  obtain ⟨T1, h1, X1, e1, E1, A1, D1, -, st1⟩ := newO X0 hx hZ hown (wd hw 99 rfl) (wd hw 100 rfl) (wd hw 97 rfl) e0 (g := (mkF m 0 #[rv nm, rv kd, rv ds] [])) rfl (hb hby d36_0) (by decide) (by decide)
  obtain ⟨b1, g1⟩ : ∃ z, z = h0.size := ⟨_, rfl⟩
  rw [← g1] at A1 D1 st1
  have fr1 : n0 ≤ b1 := Nat.le_trans (own_z O0) (Nat.le_of_eq g1.symm)
  have sz1 : h0.size ≤ b1 := Nat.le_trans (Keep.refl h0 []).1 (Nat.le_of_eq g1.symm)
  have F1_name : Fld Z h1 b1 ks0 "name" ks13 .null := D1 (Or.inr (wd hw 170 rfl)) (ty := (.object ks10)) (by decide)
  have F1_kind : Fld Z h1 b1 ks0 "kind" ks5 .null := D1 (Or.inr (wd hw 172 rfl)) (ty := (.object ks9)) (by decide)
  have F1_required : Fld Z h1 b1 ks0 ks23 "Z" (.int (0 : Int32)) := D1 (Or.inr (wd hw 174 rfl)) (ty := .boolean) (by decide)
  have F1_description : Fld Z h1 b1 ks0 ks21 ks13 .null := D1 (Or.inr (wd hw 176 rfl)) (ty := (.object ks10)) (by decide)
  have F1_choices : Fld Z h1 b1 ks0 "choices" ks16 .null := D1 (Or.inr (wd hw 178 rfl)) (ty := (.object ks18)) (by decide)
  have F1_wholeNumber : Fld Z h1 b1 ks0 ks22 "Z" (.int (0 : Int32)) := D1 (Or.inr (wd hw 180 rfl)) (ty := .boolean) (by decide)
  have F1_role : Fld Z h1 b1 ks0 "role" ks7 .null := D1 (Or.inr (wd hw 182 rfl)) (ty := (.object ks1)) (by decide)
  have F1_header : Fld Z h1 b1 ks0 "header" ks15 .null := D1 (Or.inr (wd hw 184 rfl)) (ty := (.object ks14)) (by decide)
  refine own_stV (T' := T1) (g' := (mkF m 3 #[rv nm, rv kd, rv ds] [(.ref b1)])) st1 ?_
  clear st1
  refine own_spV (q := 4) (S' := [(.ref b1), (.ref b1)]) (fun _ k_ => XS.dup X1.here hx rfl (hb hby d36_3) rfl rfl k_) ?_
  refine own_spV (q := 5) (S' := [(.ref nm), (.ref b1), (.ref b1)]) (fun _ k_ => XS.aloadN X1.here hx rfl (hb hby d36_4) rfl rfl  k_) ?_
  refine own_spV (q := 6) (S' := [(.ref kd), (.ref nm), (.ref b1), (.ref b1)]) (fun _ k_ => XS.aloadN X1.here hx rfl (hb hby d36_5) rfl rfl  k_) ?_
  refine own_spV (q := 7) (S' := [(.int (1 : Int32)), (.ref kd), (.ref nm), (.ref b1), (.ref b1)]) (fun _ k_ => XS.iconst X1.here hx rfl (hb hby d36_6) k_) ?_
  refine own_spV (q := 8) (S' := [(.ref ds), (.int (1 : Int32)), (.ref kd), (.ref nm), (.ref b1), (.ref b1)]) (fun _ k_ => XS.aloadN X1.here hx rfl (hb hby d36_7) rfl rfl  k_) ?_
  have f2 := O0.ext E1
  refine own_kcS own_ckV X1 hx hZ hown hml (y := own_m39) (wd hw 101 rfl) (wd hw 102 rfl) (wd hw 103 rfl) (wd hw 104 rfl) (by decide) (rm_lof0 l Z a0 hw [] el h1 n0 f2 S_el IL_el) (by decide) (by decide) (W := 6) (Nat.le_of_eq rfl) (argsL := []) (rest := [(.ref ds), (.int (1 : Int32)), (.ref kd), (.ref nm), (.ref b1), (.ref b1)]) (lenOf pd___Ljava_util_List_ rfl) rfl rfl (hb hby d36_8) rfl e1 (by decide) (by decide) (c' := 1) (s' := 8) rfl rfl (q := 11) rfl fun _ T3 L3 X3 hQ3 => ?_
  obtain ⟨rfl, Nq3, eq3⟩ := hQ3
  have N3 := Fr.app N0 Nq3
  show own_V p e below s _ _ _ T3 (mkF m 11 _ [(.ref el), (.ref ds), (.int (1 : Int32)), (.ref kd), (.ref nm), (.ref b1), (.ref b1)])
  refine own_spV (q := 12) (S' := [(.int (0 : Int32)), (.ref el), (.ref ds), (.int (1 : Int32)), (.ref kd), (.ref nm), (.ref b1), (.ref b1)]) (fun _ k_ => XS.iconst X3.here hx rfl (hb hby d36_11) k_) ?_
  refine own_kgs own_ckV X3 hx hZ hown (host := "") (Or.inl (wd hw 107 rfl)) Via.refl eq3 (S_OPTION.ext f2.2) (hb hby d36_12) (q := 15) rfl fun T4 X4 e4 => ?_
  refine own_kcS own_ckV X4 hx hZ hown hml (y := own_m38) (wd hw 108 rfl) (wd hw 109 rfl) (wd hw 110 rfl) (wd hw 111 rfl) (by decide) (rm_opem l Z a0 hw [] oe h1 n0 f2 S_oe) (by decide) (by decide) (W := 9) (Nat.le_of_eq rfl) (argsL := []) (rest := [(.ref w_OPTION), (.int (0 : Int32)), (.ref el), (.ref ds), (.int (1 : Int32)), (.ref kd), (.ref nm), (.ref b1), (.ref b1)]) (lenOf pd___Ljava_util_Optional_ rfl) rfl rfl (hb hby d36_15) rfl e4 (by decide) (by decide) (c' := 1) (s' := 8) rfl rfl (q := 18) rfl fun _ T5 L5 X5 hQ5 => ?_
  obtain ⟨rfl, Nq5, eq5⟩ := hQ5
  have N5 := Fr.app N3 Nq5
  show own_V p e below s _ _ _ T5 (mkF m 18 _ [(.ref oe), (.ref w_OPTION), (.int (0 : Int32)), (.ref el), (.ref ds), (.int (1 : Int32)), (.ref kd), (.ref nm), (.ref b1), (.ref b1)])
  obtain ⟨_, T6, L6, X6, hS6, hW6, hQ6, st6⟩ := own_callIV (Z := Z) X5 hx (y := own_m46) rfl hown (mvT hZ (wd hw 113 rfl)) (mvT hZ (wd hw 114 rfl)) (mvT hZ (wd hw 115 rfl)) (by decide) (own_backV (W := 1) (rm_ini_IL l Z a0 hw [] b1 nm kd (1 : Int32) ds (0 : Int32) w_OPTION oe .null w_TEXT el (1 : Int32) h1 n0 f2 A1 F1_name F1_kind F1_required F1_description F1_choices F1_wholeNumber F1_role F1_header fr1 (X_oe.ext f2.2) (F_oe.ext f2.2) rfl (Or.inr rfl) (Or.inl rfl) (fun q => absurd rfl q) (fun q => absurd rfl q) S_TEXT (own_ILe IL_el f2.2) (fun q => absurd q (by decide))) hZ (wd hw 115 rfl) (wd hw 97 rfl) (by decide) (by decide) (fun _ _ => trivial)) (g := (mkF m 18 #[rv nm, rv kd, rv ds] [(.ref oe), (.ref w_OPTION), (.int (0 : Int32)), (.ref el), (.ref ds), (.int (1 : Int32)), (.ref kd), (.ref nm), (.ref b1), (.ref b1)])) rfl (by rw [hml]; rfl) (a := b1) (argsL := [(.ref nm), (.ref kd), (.int (1 : Int32)), (.ref ds), (.ref el), (.int (0 : Int32)), (.ref w_OPTION), (.ref oe)]) (rest := [(.ref b1)]) (lenOf pd__Ljava_lang_String_Lcom_example_countersign_countersign_Parameter_Kind_ZLjava_lang_String_Ljava_util_List_ZLcom_example_countersign_countersign_Parameter_Role_Ljava_util_Optional__V rfl) rfl (by show 2 * 0 + _ ≤ _; exact Nat.le_of_eq rfl) (hb hby d36_18) rfl eq5 (by decide) (by decide) (c' := 11) (s' := 304) rfl rfl hS0 (Nat.le_trans (Nat.le_refl _) E1.1)
  obtain ⟨rfl, Nq6, K6, fq6_0, fq6_1, fq6_2, fq6_3, fq6_4, fq6_5, fq6_6, fq6_7, fq6_8, wmq6⟩ := hQ6
  have N6 := Fr.app N5 Nq6
  have hZ6 : Z.Warmed39 (s.setVm T6.vm).vm := own_hZ hZs hS6
  have hown6 : (s.setVm T6.vm).vm.findClass ks0 = some m.cls := own_hown howns hS6
  refine own_spV (q := 21) (S' := [(.ref b1)]) st6 ?_
  clear st6
  have f7 := (Keep.refl h0 []).ext E1
  have f8 := f7.trans K6 (allS (Or.inr sz1) all0)
  exact own_retAV X6 hS6 (Nat.le_refl _) hx hret rfl rfl hlk (hb hby d36_21) (by decide) (by decide) ⟨b1, rfl, N6, f8, fq6_0, fq6_1, fq6_2, fq6_3, fq6_4, fq6_5, fq6_6, fq6_7, fq6_8, sz1, own_wmS wmq6 (show (s.setVm T6.vm).Warmed39 _ from X6.warmed.wide)⟩
theorem d26_0 : own_D bc26 0 (.aload_n 0) 1 := by decide +kernel
theorem d26_1 : own_D bc26 1 (.getfield 55) 3 := by decide +kernel
theorem d26_4 : own_D bc26 4 (.areturn) 1 := by decide +kernel
def Q_get_name (Z : State) (p_ : Addr) (gv : Addr) (h0 : Heap) (n0 : Nat) (v : Option Value) (h : Heap) (L : List Loc) : Prop := (v = some (.ref gv)) ∧ (Fr n0 L) ∧ (h = h0)
theorem rm_get_name (l : Launch) (Z : State) (a0 : Array Value) (hw : own_HW a0 Z) (ws : List Jvm.Cond) (p_ : Addr) (gv : Addr) (h0 : Heap) (n0 : Nat) (O0 : Old Z n0 h0) (Fg : Fld Z h0 p_ ks0 "name" ks13 (.ref gv)) :
    own_MF l own_m53 (Jvm.Cond.code own_m53 bc26 1 (some (.object ks10)) :: ws) (rm4 0 0 0 0) #[(.ref p_)] Z h0 (Q_get_name Z p_ gv h0 n0) := by
  refine own_met (own := ks0) (nme := "name") rfl rfl (plainFor_of_name pn_16) ?_
  intro p e s m below meth c s₁ hx hby hml hown hnm X0 e0 hret hlk hZ
  have N0 := Fr.nil n0
  rw [ef_abci m p_]
  refine own_st (T' := s₁) (g' := (mkF m 1 #[rv p_] [(.ref p_)])) (fun _ k_ => XS.aloadN X0.here hx rfl (hb hby d26_0) rfl rfl  k_) ?_
  refine own_kget own_ckE X0 hx hZ hown (host := "") (Or.inl (wd hw 169 rfl)) Via.refl e0 Fg (hb hby d26_1) (q := 4) rfl fun T1 X1 e1 => ?_
  exact own_retA X1 hx hret rfl rfl hlk (hb hby d26_4) (by decide) (by decide) ⟨rfl, N0, e1⟩
theorem d28_0 : own_D bc28 0 (.aload_n 0) 1 := by decide +kernel
theorem d28_1 : own_D bc28 1 (.getfield 61) 3 := by decide +kernel
theorem d28_4 : own_D bc28 4 (.areturn) 1 := by decide +kernel
def Q_get_kind (Z : State) (p_ : Addr) (gv : Addr) (h0 : Heap) (n0 : Nat) (v : Option Value) (h : Heap) (L : List Loc) : Prop := (v = some (.ref gv)) ∧ (Fr n0 L) ∧ (h = h0)
theorem rm_get_kind (l : Launch) (Z : State) (a0 : Array Value) (hw : own_HW a0 Z) (ws : List Jvm.Cond) (p_ : Addr) (gv : Addr) (h0 : Heap) (n0 : Nat) (O0 : Old Z n0 h0) (Fg : Fld Z h0 p_ ks0 "kind" ks5 (.ref gv)) :
    own_MF l own_m54 (Jvm.Cond.code own_m54 bc28 1 (some (.object ks9)) :: ws) (rm4 0 0 0 0) #[(.ref p_)] Z h0 (Q_get_kind Z p_ gv h0 n0) := by
  refine own_met (own := ks0) (nme := "kind") rfl rfl (plainFor_of_name pn_16) ?_
  intro p e s m below meth c s₁ hx hby hml hown hnm X0 e0 hret hlk hZ
  have N0 := Fr.nil n0
  rw [ef_abci m p_]
  refine own_st (T' := s₁) (g' := (mkF m 1 #[rv p_] [(.ref p_)])) (fun _ k_ => XS.aloadN X0.here hx rfl (hb hby d28_0) rfl rfl  k_) ?_
  refine own_kget own_ckE X0 hx hZ hown (host := "") (Or.inl (wd hw 171 rfl)) Via.refl e0 Fg (hb hby d28_1) (q := 4) rfl fun T1 X1 e1 => ?_
  exact own_retA X1 hx hret rfl rfl hlk (hb hby d28_4) (by decide) (by decide) ⟨rfl, N0, e1⟩
theorem d29_0 : own_D bc29 0 (.aload_n 0) 1 := by decide +kernel
theorem d29_1 : own_D bc29 1 (.getfield 64) 3 := by decide +kernel
theorem d29_4 : own_D bc29 4 (.ireturn) 1 := by decide +kernel
def Q_get_required (Z : State) (p_ : Addr) (gv : Int32) (h0 : Heap) (n0 : Nat) (v : Option Value) (h : Heap) (L : List Loc) : Prop := (v = some (.int gv)) ∧ (Fr n0 L) ∧ (h = h0)
theorem rm_get_required (l : Launch) (Z : State) (a0 : Array Value) (hw : own_HW a0 Z) (ws : List Jvm.Cond) (p_ : Addr) (gv : Int32) (h0 : Heap) (n0 : Nat) (O0 : Old Z n0 h0) (Fg : Fld Z h0 p_ ks0 ks23 "Z" (.int gv)) (hBv : own_B gv) :
    own_MF l own_m55 (Jvm.Cond.code own_m55 bc29 1 (some .boolean) :: ws) (rm4 0 0 0 0) #[(.ref p_)] Z h0 (Q_get_required Z p_ gv h0 n0) := by
  refine own_met (own := ks0) (nme := ks23) rfl rfl (plainFor_of_name pn_16) ?_
  intro p e s m below meth c s₁ hx hby hml hown hnm X0 e0 hret hlk hZ
  have N0 := Fr.nil n0
  rw [ef_abci m p_]
  refine own_st (T' := s₁) (g' := (mkF m 1 #[rv p_] [(.ref p_)])) (fun _ k_ => XS.aloadN X0.here hx rfl (hb hby d29_0) rfl rfl  k_) ?_
  refine own_kget own_ckE X0 hx hZ hown (host := "") (Or.inl (wd hw 173 rfl)) Via.refl e0 Fg (hb hby d29_1) (q := 4) rfl fun T1 X1 e1 => ?_
  exact own_retN X1 hx (t := .boolean) hret (by simp) hlk (hb hby d29_4) (by decide) (by decide) ⟨congrArg (fun z => some (Value.int z)) (own_bn hBv), N0, e1⟩
theorem d30_0 : own_D bc30 0 (.aload_n 0) 1 := by decide +kernel
theorem d30_1 : own_D bc30 1 (.getfield 68) 3 := by decide +kernel
theorem d30_4 : own_D bc30 4 (.areturn) 1 := by decide +kernel
def Q_get_description (Z : State) (p_ : Addr) (gv : Addr) (h0 : Heap) (n0 : Nat) (v : Option Value) (h : Heap) (L : List Loc) : Prop := (v = some (.ref gv)) ∧ (Fr n0 L) ∧ (h = h0)
theorem rm_get_description (l : Launch) (Z : State) (a0 : Array Value) (hw : own_HW a0 Z) (ws : List Jvm.Cond) (p_ : Addr) (gv : Addr) (h0 : Heap) (n0 : Nat) (O0 : Old Z n0 h0) (Fg : Fld Z h0 p_ ks0 ks21 ks13 (.ref gv)) :
    own_MF l own_m56 (Jvm.Cond.code own_m56 bc30 1 (some (.object ks10)) :: ws) (rm4 0 0 0 0) #[(.ref p_)] Z h0 (Q_get_description Z p_ gv h0 n0) := by
  refine own_met (own := ks0) (nme := ks21) rfl rfl (plainFor_of_name pn_16) ?_
  intro p e s m below meth c s₁ hx hby hml hown hnm X0 e0 hret hlk hZ
  have N0 := Fr.nil n0
  rw [ef_abci m p_]
  refine own_st (T' := s₁) (g' := (mkF m 1 #[rv p_] [(.ref p_)])) (fun _ k_ => XS.aloadN X0.here hx rfl (hb hby d30_0) rfl rfl  k_) ?_
  refine own_kget own_ckE X0 hx hZ hown (host := "") (Or.inl (wd hw 175 rfl)) Via.refl e0 Fg (hb hby d30_1) (q := 4) rfl fun T1 X1 e1 => ?_
  exact own_retA X1 hx hret rfl rfl hlk (hb hby d30_4) (by decide) (by decide) ⟨rfl, N0, e1⟩
theorem d34_0 : own_D bc34 0 (.aload_n 0) 1 := by decide +kernel
theorem d34_1 : own_D bc34 1 (.getfield 71) 3 := by decide +kernel
theorem d34_4 : own_D bc34 4 (.areturn) 1 := by decide +kernel
def Q_get_choices (Z : State) (p_ : Addr) (gv : Addr) (h0 : Heap) (n0 : Nat) (v : Option Value) (h : Heap) (L : List Loc) : Prop := (v = some (.ref gv)) ∧ (Fr n0 L) ∧ (h = h0)
theorem rm_get_choices (l : Launch) (Z : State) (a0 : Array Value) (hw : own_HW a0 Z) (ws : List Jvm.Cond) (p_ : Addr) (gv : Addr) (h0 : Heap) (n0 : Nat) (O0 : Old Z n0 h0) (Fg : Fld Z h0 p_ ks0 "choices" ks16 (.ref gv)) :
    own_MF l own_m57 (Jvm.Cond.code own_m57 bc34 1 (some (.object ks18)) :: ws) (rm4 0 0 0 0) #[(.ref p_)] Z h0 (Q_get_choices Z p_ gv h0 n0) := by
  refine own_met (own := ks0) (nme := "choices") rfl rfl (plainFor_of_name pn_16) ?_
  intro p e s m below meth c s₁ hx hby hml hown hnm X0 e0 hret hlk hZ
  have N0 := Fr.nil n0
  rw [ef_abci m p_]
  refine own_st (T' := s₁) (g' := (mkF m 1 #[rv p_] [(.ref p_)])) (fun _ k_ => XS.aloadN X0.here hx rfl (hb hby d34_0) rfl rfl  k_) ?_
  refine own_kget own_ckE X0 hx hZ hown (host := "") (Or.inl (wd hw 177 rfl)) Via.refl e0 Fg (hb hby d34_1) (q := 4) rfl fun T1 X1 e1 => ?_
  exact own_retA X1 hx hret rfl rfl hlk (hb hby d34_4) (by decide) (by decide) ⟨rfl, N0, e1⟩
theorem d31_0 : own_D bc31 0 (.aload_n 0) 1 := by decide +kernel
theorem d31_1 : own_D bc31 1 (.getfield 75) 3 := by decide +kernel
theorem d31_4 : own_D bc31 4 (.ireturn) 1 := by decide +kernel
def Q_get_wholeNumber (Z : State) (p_ : Addr) (gv : Int32) (h0 : Heap) (n0 : Nat) (v : Option Value) (h : Heap) (L : List Loc) : Prop := (v = some (.int gv)) ∧ (Fr n0 L) ∧ (h = h0)
theorem rm_get_wholeNumber (l : Launch) (Z : State) (a0 : Array Value) (hw : own_HW a0 Z) (ws : List Jvm.Cond) (p_ : Addr) (gv : Int32) (h0 : Heap) (n0 : Nat) (O0 : Old Z n0 h0) (Fg : Fld Z h0 p_ ks0 ks22 "Z" (.int gv)) (hBv : own_B gv) :
    own_MF l own_m58 (Jvm.Cond.code own_m58 bc31 1 (some .boolean) :: ws) (rm4 0 0 0 0) #[(.ref p_)] Z h0 (Q_get_wholeNumber Z p_ gv h0 n0) := by
  refine own_met (own := ks0) (nme := ks22) rfl rfl (plainFor_of_name pn_16) ?_
  intro p e s m below meth c s₁ hx hby hml hown hnm X0 e0 hret hlk hZ
  have N0 := Fr.nil n0
  rw [ef_abci m p_]
  refine own_st (T' := s₁) (g' := (mkF m 1 #[rv p_] [(.ref p_)])) (fun _ k_ => XS.aloadN X0.here hx rfl (hb hby d31_0) rfl rfl  k_) ?_
  refine own_kget own_ckE X0 hx hZ hown (host := "") (Or.inl (wd hw 179 rfl)) Via.refl e0 Fg (hb hby d31_1) (q := 4) rfl fun T1 X1 e1 => ?_
  exact own_retN X1 hx (t := .boolean) hret (by simp) hlk (hb hby d31_4) (by decide) (by decide) ⟨congrArg (fun z => some (Value.int z)) (own_bn hBv), N0, e1⟩
theorem d25_0 : own_D bc25 0 (.aload_n 0) 1 := by decide +kernel
theorem d25_1 : own_D bc25 1 (.getfield 78) 3 := by decide +kernel
theorem d25_4 : own_D bc25 4 (.areturn) 1 := by decide +kernel
def Q_get_role (Z : State) (p_ : Addr) (gv : Addr) (h0 : Heap) (n0 : Nat) (v : Option Value) (h : Heap) (L : List Loc) : Prop := (v = some (.ref gv)) ∧ (Fr n0 L) ∧ (h = h0)
theorem rm_get_role (l : Launch) (Z : State) (a0 : Array Value) (hw : own_HW a0 Z) (ws : List Jvm.Cond) (p_ : Addr) (gv : Addr) (h0 : Heap) (n0 : Nat) (O0 : Old Z n0 h0) (Fg : Fld Z h0 p_ ks0 "role" ks7 (.ref gv)) :
    own_MF l own_m59 (Jvm.Cond.code own_m59 bc25 1 (some (.object ks1)) :: ws) (rm4 0 0 0 0) #[(.ref p_)] Z h0 (Q_get_role Z p_ gv h0 n0) := by
  refine own_met (own := ks0) (nme := "role") rfl rfl (plainFor_of_name pn_16) ?_
  intro p e s m below meth c s₁ hx hby hml hown hnm X0 e0 hret hlk hZ
  have N0 := Fr.nil n0
  rw [ef_abci m p_]
  refine own_st (T' := s₁) (g' := (mkF m 1 #[rv p_] [(.ref p_)])) (fun _ k_ => XS.aloadN X0.here hx rfl (hb hby d25_0) rfl rfl  k_) ?_
  refine own_kget own_ckE X0 hx hZ hown (host := "") (Or.inl (wd hw 181 rfl)) Via.refl e0 Fg (hb hby d25_1) (q := 4) rfl fun T1 X1 e1 => ?_
  exact own_retA X1 hx hret rfl rfl hlk (hb hby d25_4) (by decide) (by decide) ⟨rfl, N0, e1⟩
theorem d32_0 : own_D bc32 0 (.aload_n 0) 1 := by decide +kernel
theorem d32_1 : own_D bc32 1 (.getfield 82) 3 := by decide +kernel
theorem d32_4 : own_D bc32 4 (.areturn) 1 := by decide +kernel
def Q_get_header (Z : State) (p_ : Addr) (gv : Addr) (h0 : Heap) (n0 : Nat) (v : Option Value) (h : Heap) (L : List Loc) : Prop := (v = some (.ref gv)) ∧ (Fr n0 L) ∧ (h = h0)
theorem rm_get_header (l : Launch) (Z : State) (a0 : Array Value) (hw : own_HW a0 Z) (ws : List Jvm.Cond) (p_ : Addr) (gv : Addr) (h0 : Heap) (n0 : Nat) (O0 : Old Z n0 h0) (Fg : Fld Z h0 p_ ks0 "header" ks15 (.ref gv)) :
    own_MF l own_m60 (Jvm.Cond.code own_m60 bc32 1 (some (.object ks14)) :: ws) (rm4 0 0 0 0) #[(.ref p_)] Z h0 (Q_get_header Z p_ gv h0 n0) := by
  refine own_met (own := ks0) (nme := "header") rfl rfl (plainFor_of_name pn_16) ?_
  intro p e s m below meth c s₁ hx hby hml hown hnm X0 e0 hret hlk hZ
  have N0 := Fr.nil n0
  rw [ef_abci m p_]
  refine own_st (T' := s₁) (g' := (mkF m 1 #[rv p_] [(.ref p_)])) (fun _ k_ => XS.aloadN X0.here hx rfl (hb hby d32_0) rfl rfl  k_) ?_
  refine own_kget own_ckE X0 hx hZ hown (host := "") (Or.inl (wd hw 183 rfl)) Via.refl e0 Fg (hb hby d32_1) (q := 4) rfl fun T1 X1 e1 => ?_
  exact own_retA X1 hx hret rfl rfl hlk (hb hby d32_4) (by decide) (by decide) ⟨rfl, N0, e1⟩
theorem d35_0 : own_D bc35 0 (.aload_n 0) 1 := by decide +kernel
theorem d35_1 : own_D bc35 1 (.getfield 7) 3 := by decide +kernel
theorem d35_4 : own_D bc35 4 (.arraylength) 1 := by decide +kernel
theorem d35_5 : own_D bc35 5 (.ireturn) 1 := by decide +kernel
def Q_sz_0 (Z : State) (x : Addr) (uu : Addr) (cl : Cell) (h0 : Heap) (n0 : Nat) (v : Option Value) (h : Heap) (L : List Loc) : Prop := (v = some (.int (cl.slots.size.toInt32))) ∧ (Fr n0 L) ∧ (h = h0)
theorem rm_sz_0 (l : Launch) (Z : State) (a0 : Array Value) (hw : own_HW a0 Z) (ws : List Jvm.Cond) (x : Addr) (uu : Addr) (cl : Cell) (h0 : Heap) (n0 : Nat) (O0 : Old Z n0 h0) (F_e : Fld Z h0 x ks11 "elements" ks8 (.ref uu)) (A_u : Arr Z h0 uu cl (.object ks2)) :
    own_MF l own_m61 (Jvm.Cond.code own_m61 bc35 1 (some .int) :: ws) (rm4 0 0 0 0) #[(.ref x)] Z h0 (Q_sz_0 Z x uu cl h0 n0) := by
  refine own_met (own := ks11) (nme := "size") rfl rfl (plainFor_of_name pn_10) ?_
  intro p e s m below meth c s₁ hx hby hml hown hnm X0 e0 hret hlk hZ
  have N0 := Fr.nil n0
  rw [ef_abci m x]
  refine own_st (T' := s₁) (g' := (mkF m 1 #[rv x] [(.ref x)])) (fun _ k_ => XS.aloadN X0.here hx rfl (hb hby d35_0) rfl rfl  k_) ?_
  refine own_kget own_ckE X0 hx hZ hown (host := "") (Or.inl (wd hw 160 rfl)) Via.refl e0 F_e (hb hby d35_1) (q := 4) rfl fun T1 X1 e1 => ?_
  refine own_sp (q := 5) (S' := [(.int cl.slots.size.toInt32)]) (fun t_ k_ => X1.arraylength hx (by rw [e1]; exact A_u.1) (State.isArrayOf_alike hZ.alike A_u.2.1) (g := (mkF m 4 #[rv x] [(.ref uu)])) rfl rfl (hb hby d35_4) _ k_) ?_
  exact own_retI X1 hx hret hlk (hb hby d35_5) (by decide) (by decide) ⟨rfl, N0, e1⟩
theorem d61_0 : own_D bc61 0 (.aload_n 0) 1 := by decide +kernel
theorem d61_1 : own_D bc61 1 (.getfield 24) 3 := by decide +kernel
theorem d61_4 : own_D bc61 4 (.getstatic 19) 3 := by decide +kernel
theorem d61_7 : own_D bc61 7 (.if_acmp .eq 7) 3 := by decide +kernel
theorem d61_14 : own_D bc61 14 (.iconst 1) 1 := by decide +kernel
theorem d61_15 : own_D bc61 15 (.ireturn) 1 := by decide +kernel
def Q_sz_1 (Z : State) (x : Addr) (y0 : Addr) (em : Addr) (h0 : Heap) (n0 : Nat) (v : Option Value) (h : Heap) (L : List Loc) : Prop := (v = some (.int (1 : Int32))) ∧ (Fr n0 L) ∧ (h = h0)
theorem rm_sz_1 (l : Launch) (Z : State) (a0 : Array Value) (hw : own_HW a0 Z) (ws : List Jvm.Cond) (x : Addr) (y0 : Addr) (em : Addr) (h0 : Heap) (n0 : Nat) (O0 : Old Z n0 h0) (F0 : Fld Z h0 x ks4 "e0" ks12 (.ref y0)) (F1 : Fld Z h0 x ks4 "e1" ks12 (.ref em)) (SEm : Sta Z Z.heap ks19 "EMPTY" ks12 (.ref em)) :
    own_MF l own_m62 (Jvm.Cond.code own_m62 bc61 1 (some .int) :: ws) (rm4 0 0 0 0) #[(.ref x)] Z h0 (Q_sz_1 Z x y0 em h0 n0) := by
  refine own_met (own := ks4) (nme := "size") rfl rfl (plainFor_of_name pn_9) ?_
  intro p e s m below meth c s₁ hx hby hml hown hnm X0 e0 hret hlk hZ
  have N0 := Fr.nil n0
  rw [ef_abci m x]
  refine own_st (T' := s₁) (g' := (mkF m 1 #[rv x] [(.ref x)])) (fun _ k_ => XS.aloadN X0.here hx rfl (hb hby d61_0) rfl rfl  k_) ?_
  refine own_kget own_ckE X0 hx hZ hown (host := "") (Or.inl (wd hw 402 rfl)) Via.refl e0 F1 (hb hby d61_1) (q := 4) rfl fun T1 X1 e1 => ?_
  refine own_kgs own_ckE X1 hx hZ hown (Or.inr (wd hw 415 rfl)) Via.refl e1 (SEm.ext O0.2) (hb hby d61_4) (q := 7) rfl fun T2 X2 e2 => ?_
  refine own_sp (q := 14) (S' := []) (fun _ k_ => Jvm.RoadKit.acmp (g := (mkF m 7 #[rv x] [(.ref em), (.ref em)])) X2 hx rfl rfl rfl (pc0 := 7) (pc' := 14) (same := true) rfl (hb hby d61_7) rfl (decide_eq_true rfl) (by decide) (by decide) k_) ?_
  refine own_sp (q := 15) (S' := [(.int (1 : Int32))]) (fun _ k_ => XS.iconst X2.here hx rfl (hb hby d61_14) k_) ?_
  exact own_retI X2 hx hret hlk (hb hby d61_15) (by decide) (by decide) ⟨rfl, N0, e2⟩
theorem d61_10 : own_D bc61 10 (.iconst 2) 1 := by decide +kernel
theorem d61_11 : own_D bc61 11 (.goto 4) 3 := by decide +kernel
def Q_sz_2 (Z : State) (x : Addr) (y0 : Addr) (y1 : Addr) (em : Addr) (h0 : Heap) (n0 : Nat) (v : Option Value) (h : Heap) (L : List Loc) : Prop := (v = some (.int (2 : Int32))) ∧ (Fr n0 L) ∧ (h = h0)
theorem rm_sz_2 (l : Launch) (Z : State) (a0 : Array Value) (hw : own_HW a0 Z) (ws : List Jvm.Cond) (x : Addr) (y0 : Addr) (y1 : Addr) (em : Addr) (h0 : Heap) (n0 : Nat) (O0 : Old Z n0 h0) (F0 : Fld Z h0 x ks4 "e0" ks12 (.ref y0)) (F1 : Fld Z h0 x ks4 "e1" ks12 (.ref y1)) (ne : y1 ≠ em) (SEm : Sta Z Z.heap ks19 "EMPTY" ks12 (.ref em)) :
    own_MF l own_m62 (Jvm.Cond.code own_m62 bc61 1 (some .int) :: ws) (rm4 0 0 0 0) #[(.ref x)] Z h0 (Q_sz_2 Z x y0 y1 em h0 n0) := by
  refine own_met (own := ks4) (nme := "size") rfl rfl (plainFor_of_name pn_9) ?_
  intro p e s m below meth c s₁ hx hby hml hown hnm X0 e0 hret hlk hZ
  have N0 := Fr.nil n0
  rw [ef_abci m x]
  refine own_st (T' := s₁) (g' := (mkF m 1 #[rv x] [(.ref x)])) (fun _ k_ => XS.aloadN X0.here hx rfl (hb hby d61_0) rfl rfl  k_) ?_
  refine own_kget own_ckE X0 hx hZ hown (host := "") (Or.inl (wd hw 402 rfl)) Via.refl e0 F1 (hb hby d61_1) (q := 4) rfl fun T1 X1 e1 => ?_
  refine own_kgs own_ckE X1 hx hZ hown (Or.inr (wd hw 415 rfl)) Via.refl e1 (SEm.ext O0.2) (hb hby d61_4) (q := 7) rfl fun T2 X2 e2 => ?_
  refine own_sp (q := 10) (S' := []) (fun _ k_ => Jvm.RoadKit.acmp (g := (mkF m 7 #[rv x] [(.ref em), (.ref y1)])) X2 hx rfl rfl rfl (pc0 := 7) (pc' := 10) (same := false) rfl (hb hby d61_7) rfl (decide_eq_false fun q => ne (Value.ref.inj q)) (by decide) (by decide) k_) ?_
  refine own_sp (q := 11) (S' := [(.int (2 : Int32))]) (fun _ k_ => XS.iconst X2.here hx rfl (hb hby d61_10) k_) ?_
  refine own_sp (q := 15) (S' := [(.int (2 : Int32))]) (fun _ k_ => XS.goto X2.here hx rfl (pc0 := 11) (pc' := 15) rfl (hb hby d61_11) (by decide) (by decide) k_) ?_
  exact own_retI X2 hx hret hlk (hb hby d61_15) (by decide) (by decide) ⟨rfl, N0, e2⟩
theorem d62_0 : own_D bc62 0 (.iload_n 1) 1 := by decide +kernel
theorem d62_1 : own_D bc62 1 (.ifCond .ne 8) 3 := by decide +kernel
theorem d62_4 : own_D bc62 4 (.aload_n 0) 1 := by decide +kernel
theorem d62_5 : own_D bc62 5 (.getfield 13) 3 := by decide +kernel
theorem d62_8 : own_D bc62 8 (.areturn) 1 := by decide +kernel
def Q_gt_10 (Z : State) (x : Addr) (y0 : Addr) (em : Addr) (h0 : Heap) (n0 : Nat) (v : Option Value) (h : Heap) (L : List Loc) : Prop := (v = some (.ref y0)) ∧ (Fr n0 L) ∧ (h = h0)
theorem rm_gt_10 (l : Launch) (Z : State) (a0 : Array Value) (hw : own_HW a0 Z) (ws : List Jvm.Cond) (x : Addr) (y0 : Addr) (em : Addr) (h0 : Heap) (n0 : Nat) (O0 : Old Z n0 h0) (F0 : Fld Z h0 x ks4 "e0" ks12 (.ref y0)) (F1 : Fld Z h0 x ks4 "e1" ks12 (.ref em)) :
    own_MF l own_m63 (Jvm.Cond.code own_m63 bc62 2 (some (.object ks2)) :: ws) (rm4 0 0 0 0) #[(.ref x), (.int (0 : Int32))] Z h0 (Q_gt_10 Z x y0 em h0 n0) := by
  refine own_met (own := ks4) (nme := "get") rfl rfl (plainFor_of_name pn_9) ?_
  intro p e s m below meth c s₁ hx hby hml hown hnm X0 e0 hret hlk hZ
  have N0 := Fr.nil n0
  rw [ef_cdr_2 m x (0 : Int32)]
  refine own_st (T' := s₁) (g' := (mkF m 1 #[rv x, iv (0 : Int32)] [(.int (0 : Int32))])) (fun _ k_ => XS.iloadN X0.here hx rfl (hb hby d62_0) rfl  k_) ?_
  refine own_sp (q := 4) (S' := []) (fun _ k_ => XS.ifNo X0.here hx rfl (hb hby d62_1) rfl ((if0 _ _).trans (teq (rfl : (0 : Int32) = (0 : Int32))).2) k_) ?_
  refine own_sp (q := 5) (S' := [(.ref x)]) (fun _ k_ => XS.aloadN X0.here hx rfl (hb hby d62_4) rfl rfl  k_) ?_
  refine own_kget own_ckE X0 hx hZ hown (host := "") (Or.inl (wd hw 400 rfl)) Via.refl e0 F0 (hb hby d62_5) (q := 8) rfl fun T1 X1 e1 => ?_
  exact own_retA X1 hx hret rfl rfl hlk (hb hby d62_8) (by decide) (by decide) ⟨rfl, N0, e1⟩
def Q_gt_20 (Z : State) (x : Addr) (y0 : Addr) (y1 : Addr) (h0 : Heap) (n0 : Nat) (v : Option Value) (h : Heap) (L : List Loc) : Prop := (v = some (.ref y0)) ∧ (Fr n0 L) ∧ (h = h0)
theorem rm_gt_20 (l : Launch) (Z : State) (a0 : Array Value) (hw : own_HW a0 Z) (ws : List Jvm.Cond) (x : Addr) (y0 : Addr) (y1 : Addr) (h0 : Heap) (n0 : Nat) (O0 : Old Z n0 h0) (F0 : Fld Z h0 x ks4 "e0" ks12 (.ref y0)) (F1 : Fld Z h0 x ks4 "e1" ks12 (.ref y1)) :
    own_MF l own_m63 (Jvm.Cond.code own_m63 bc62 2 (some (.object ks2)) :: ws) (rm4 0 0 0 0) #[(.ref x), (.int (0 : Int32))] Z h0 (Q_gt_20 Z x y0 y1 h0 n0) := by
  refine own_met (own := ks4) (nme := "get") rfl rfl (plainFor_of_name pn_9) ?_
  intro p e s m below meth c s₁ hx hby hml hown hnm X0 e0 hret hlk hZ
  have N0 := Fr.nil n0
  rw [ef_cdr_2 m x (0 : Int32)]
  refine own_st (T' := s₁) (g' := (mkF m 1 #[rv x, iv (0 : Int32)] [(.int (0 : Int32))])) (fun _ k_ => XS.iloadN X0.here hx rfl (hb hby d62_0) rfl  k_) ?_
  refine own_sp (q := 4) (S' := []) (fun _ k_ => XS.ifNo X0.here hx rfl (hb hby d62_1) rfl ((if0 _ _).trans (teq (rfl : (0 : Int32) = (0 : Int32))).2) k_) ?_
  refine own_sp (q := 5) (S' := [(.ref x)]) (fun _ k_ => XS.aloadN X0.here hx rfl (hb hby d62_4) rfl rfl  k_) ?_
  refine own_kget own_ckE X0 hx hZ hown (host := "") (Or.inl (wd hw 400 rfl)) Via.refl e0 F0 (hb hby d62_5) (q := 8) rfl fun T1 X1 e1 => ?_
  exact own_retA X1 hx hret rfl rfl hlk (hb hby d62_8) (by decide) (by decide) ⟨rfl, N0, e1⟩
theorem d62_9 : own_D bc62 9 (.iload_n 1) 1 := by decide +kernel
theorem d62_10 : own_D bc62 10 (.iconst 1) 1 := by decide +kernel
theorem d62_11 : own_D bc62 11 (.if_icmp .ne 18) 3 := by decide +kernel
theorem d62_14 : own_D bc62 14 (.aload_n 0) 1 := by decide +kernel
theorem d62_15 : own_D bc62 15 (.getfield 24) 3 := by decide +kernel
theorem d62_18 : own_D bc62 18 (.getstatic 19) 3 := by decide +kernel
theorem d62_21 : own_D bc62 21 (.if_acmp .eq 8) 3 := by decide +kernel
theorem d62_24 : own_D bc62 24 (.aload_n 0) 1 := by decide +kernel
theorem d62_25 : own_D bc62 25 (.getfield 24) 3 := by decide +kernel
theorem d62_28 : own_D bc62 28 (.areturn) 1 := by decide +kernel
def Q_gt_21 (Z : State) (x : Addr) (y0 : Addr) (y1 : Addr) (em : Addr) (h0 : Heap) (n0 : Nat) (v : Option Value) (h : Heap) (L : List Loc) : Prop := (v = some (.ref y1)) ∧ (Fr n0 L) ∧ (h = h0)
theorem rm_gt_21 (l : Launch) (Z : State) (a0 : Array Value) (hw : own_HW a0 Z) (ws : List Jvm.Cond) (x : Addr) (y0 : Addr) (y1 : Addr) (em : Addr) (h0 : Heap) (n0 : Nat) (O0 : Old Z n0 h0) (F0 : Fld Z h0 x ks4 "e0" ks12 (.ref y0)) (F1 : Fld Z h0 x ks4 "e1" ks12 (.ref y1)) (ne : y1 ≠ em) (SEm : Sta Z Z.heap ks19 "EMPTY" ks12 (.ref em)) :
    own_MF l own_m63 (Jvm.Cond.code own_m63 bc62 2 (some (.object ks2)) :: ws) (rm4 0 0 0 0) #[(.ref x), (.int (1 : Int32))] Z h0 (Q_gt_21 Z x y0 y1 em h0 n0) := by
  refine own_met (own := ks4) (nme := "get") rfl rfl (plainFor_of_name pn_9) ?_
  intro p e s m below meth c s₁ hx hby hml hown hnm X0 e0 hret hlk hZ
  have N0 := Fr.nil n0
  rw [ef_cdr_2 m x (1 : Int32)]
  refine own_st (T' := s₁) (g' := (mkF m 1 #[rv x, iv (1 : Int32)] [(.int (1 : Int32))])) (fun _ k_ => XS.iloadN X0.here hx rfl (hb hby d62_0) rfl  k_) ?_
  refine own_sp (q := 9) (S' := []) (fun _ k_ => XS.ifYes X0.here hx rfl (pc0 := 1) (pc' := 9) rfl (hb hby d62_1) rfl ((if0 _ _).trans (feq (by decide : ¬ ((1 : Int32) = (0 : Int32)))).2) (by decide) (by decide) k_) ?_
  refine own_sp (q := 10) (S' := [(.int (1 : Int32))]) (fun _ k_ => XS.iloadN X0.here hx rfl (hb hby d62_9) rfl  k_) ?_
  refine own_sp (q := 11) (S' := [(.int (1 : Int32)), (.int (1 : Int32))]) (fun _ k_ => XS.iconst X0.here hx rfl (hb hby d62_10) k_) ?_
  refine own_sp (q := 14) (S' := []) (fun _ k_ => XS.icmpNo X0.here hx rfl (hb hby d62_11) rfl (teq (rfl : (1 : Int32) = (1 : Int32))).2 k_) ?_
  refine own_sp (q := 15) (S' := [(.ref x)]) (fun _ k_ => XS.aloadN X0.here hx rfl (hb hby d62_14) rfl rfl  k_) ?_
  refine own_kget own_ckE X0 hx hZ hown (host := "") (Or.inl (wd hw 402 rfl)) Via.refl e0 F1 (hb hby d62_15) (q := 18) rfl fun T1 X1 e1 => ?_
  refine own_kgs own_ckE X1 hx hZ hown (Or.inr (wd hw 415 rfl)) Via.refl e1 (SEm.ext O0.2) (hb hby d62_18) (q := 21) rfl fun T2 X2 e2 => ?_
  refine own_sp (q := 24) (S' := []) (fun _ k_ => Jvm.RoadKit.acmp (g := (mkF m 21 #[rv x, iv (1 : Int32)] [(.ref em), (.ref y1)])) X2 hx rfl rfl rfl (pc0 := 21) (pc' := 24) (same := false) rfl (hb hby d62_21) rfl (decide_eq_false fun q => ne (Value.ref.inj q)) (by decide) (by decide) k_) ?_
  refine own_sp (q := 25) (S' := [(.ref x)]) (fun _ k_ => XS.aloadN X2.here hx rfl (hb hby d62_24) rfl rfl  k_) ?_
  refine own_kget own_ckE X2 hx hZ hown (host := "") (Or.inl (wd hw 402 rfl)) Via.refl e2 F1 (hb hby d62_25) (q := 28) rfl fun T3 X3 e3 => ?_
  exact own_retA X3 hx hret rfl rfl hlk (hb hby d62_28) (by decide) (by decide) ⟨rfl, N0, e3⟩
def Q_sz_3 (Z : State) (x : Addr) (uu : Addr) (kO : ClassId) (y0 : Addr) (y1 : Addr) (y2 : Addr) (h0 : Heap) (n0 : Nat) (v : Option Value) (h : Heap) (L : List Loc) : Prop := (v = some (.int (3 : Int32))) ∧ (Fr n0 L) ∧ (h = h0)
theorem rm_sz_3 (l : Launch) (Z : State) (a0 : Array Value) (hw : own_HW a0 Z) (ws : List Jvm.Cond) (x : Addr) (uu : Addr) (kO : ClassId) (y0 : Addr) (y1 : Addr) (y2 : Addr) (h0 : Heap) (n0 : Nat) (O0 : Old Z n0 h0) (Fl : Fld Z h0 x ks11 "elements" ks8 (.ref uu)) (V_u : Arv Z h0 uu kO (.object ks2) (3 : Int32) [(.ref y0), (.ref y1), (.ref y2)] .null) :
    own_MF l own_m61 (Jvm.Cond.code own_m61 bc35 1 (some .int) :: ws) (rm4 0 0 0 0) #[(.ref x)] Z h0 (Q_sz_3 Z x uu kO y0 y1 y2 h0 n0) := by
  refine own_met (own := ks11) (nme := "size") rfl rfl (plainFor_of_name pn_10) ?_
  intro p e s m below meth c s₁ hx hby hml hown hnm X0 e0 hret hlk hZ
  have N0 := Fr.nil n0
  rw [ef_abci m x]
  refine own_st (T' := s₁) (g' := (mkF m 1 #[rv x] [(.ref x)])) (fun _ k_ => XS.aloadN X0.here hx rfl (hb hby d35_0) rfl rfl  k_) ?_
  refine own_kget own_ckE X0 hx hZ hown (host := "") (Or.inl (wd hw 160 rfl)) Via.refl e0 Fl (hb hby d35_1) (q := 4) rfl fun T1 X1 e1 => ?_
  obtain ⟨cl2, Ar2, -, S2, N2, -, -⟩ := id V_u
  refine own_sp (q := 5) (S' := [(.int (3 : Int32))]) (fun t_ k_ => X1.arraylength hx (by rw [e1]; exact Ar2.1) (State.isArrayOf_alike hZ.alike Ar2.2.1) (g := (mkF m 4 #[rv x] [(.ref uu)])) rfl rfl (hb hby d35_4) _ (by rw [len_of S2 N2]; exact k_)) ?_
  exact own_retI X1 hx hret hlk (hb hby d35_5) (by decide) (by decide) ⟨rfl, N0, e1⟩
theorem d54_0 : own_D bc54 0 (.aload_n 0) 1 := by decide +kernel
theorem d54_1 : own_D bc54 1 (.getfield 7) 3 := by decide +kernel
theorem d54_4 : own_D bc54 4 (.iload_n 1) 1 := by decide +kernel
theorem d54_5 : own_D bc54 5 (.aaload) 1 := by decide +kernel
theorem d54_6 : own_D bc54 6 (.areturn) 1 := by decide +kernel
def Q_gt_30 (Z : State) (x : Addr) (uu : Addr) (kO : ClassId) (y0 : Addr) (y1 : Addr) (y2 : Addr) (h0 : Heap) (n0 : Nat) (v : Option Value) (h : Heap) (L : List Loc) : Prop := (v = some (.ref y0)) ∧ (Fr n0 L) ∧ (h = h0)
theorem rm_gt_30 (l : Launch) (Z : State) (a0 : Array Value) (hw : own_HW a0 Z) (ws : List Jvm.Cond) (x : Addr) (uu : Addr) (kO : ClassId) (y0 : Addr) (y1 : Addr) (y2 : Addr) (h0 : Heap) (n0 : Nat) (O0 : Old Z n0 h0) (Fl : Fld Z h0 x ks11 "elements" ks8 (.ref uu)) (V_u : Arv Z h0 uu kO (.object ks2) (3 : Int32) [(.ref y0), (.ref y1), (.ref y2)] .null) :
    own_MF l own_m64 (Jvm.Cond.code own_m64 bc54 2 (some (.object ks2)) :: ws) (rm4 0 0 0 0) #[(.ref x), (.int (0 : Int32))] Z h0 (Q_gt_30 Z x uu kO y0 y1 y2 h0 n0) := by
  refine own_met (own := ks11) (nme := "get") rfl rfl (plainFor_of_name pn_10) ?_
  intro p e s m below meth c s₁ hx hby hml hown hnm X0 e0 hret hlk hZ
  have N0 := Fr.nil n0
  rw [ef_cdr_2 m x (0 : Int32)]
  refine own_st (T' := s₁) (g' := (mkF m 1 #[rv x, iv (0 : Int32)] [(.ref x)])) (fun _ k_ => XS.aloadN X0.here hx rfl (hb hby d54_0) rfl rfl  k_) ?_
  refine own_kget own_ckE X0 hx hZ hown (host := "") (Or.inl (wd hw 160 rfl)) Via.refl e0 Fl (hb hby d54_1) (q := 4) rfl fun T1 X1 e1 => ?_
  refine own_sp (q := 5) (S' := [(.int (0 : Int32)), (.ref uu)]) (fun _ k_ => XS.iloadN X1.here hx rfl (hb hby d54_4) rfl  k_) ?_
  obtain ⟨cl2, Ar2, q2, S2, N2, H2, G2⟩ := id V_u
  have hin2 : ¬ ((0 : Int32) < 0 ∨ cl2.slots.size ≤ ((0 : Int32)).toNatClampNeg) := inb_of S2 ⟨by decide, by decide⟩
  refine own_sp (q := 6) (S' := [(.ref y0)]) (X1.aaload hx (j := (0 : Int32)) (v := (.ref y0)) (by rw [e1]; exact Ar2.1) (State.isArrayOf_alike hZ.alike Ar2.2.1) rfl Ar2.2.2 hin2 (H2.at hin2 rfl) (g := (mkF m 5 #[rv x, iv (0 : Int32)] [(.int (0 : Int32)), (.ref uu)])) rfl rfl (hb hby d54_5)) ?_
  clear hin2 G2 H2 N2 S2 q2 Ar2 cl2
  exact own_retA X1 hx hret rfl rfl hlk (hb hby d54_6) (by decide) (by decide) ⟨rfl, N0, e1⟩
def Q_gt_31 (Z : State) (x : Addr) (uu : Addr) (kO : ClassId) (y0 : Addr) (y1 : Addr) (y2 : Addr) (h0 : Heap) (n0 : Nat) (v : Option Value) (h : Heap) (L : List Loc) : Prop := (v = some (.ref y1)) ∧ (Fr n0 L) ∧ (h = h0)
theorem rm_gt_31 (l : Launch) (Z : State) (a0 : Array Value) (hw : own_HW a0 Z) (ws : List Jvm.Cond) (x : Addr) (uu : Addr) (kO : ClassId) (y0 : Addr) (y1 : Addr) (y2 : Addr) (h0 : Heap) (n0 : Nat) (O0 : Old Z n0 h0) (Fl : Fld Z h0 x ks11 "elements" ks8 (.ref uu)) (V_u : Arv Z h0 uu kO (.object ks2) (3 : Int32) [(.ref y0), (.ref y1), (.ref y2)] .null) :
    own_MF l own_m64 (Jvm.Cond.code own_m64 bc54 2 (some (.object ks2)) :: ws) (rm4 0 0 0 0) #[(.ref x), (.int (1 : Int32))] Z h0 (Q_gt_31 Z x uu kO y0 y1 y2 h0 n0) := by
  refine own_met (own := ks11) (nme := "get") rfl rfl (plainFor_of_name pn_10) ?_
  intro p e s m below meth c s₁ hx hby hml hown hnm X0 e0 hret hlk hZ
  have N0 := Fr.nil n0
  rw [ef_cdr_2 m x (1 : Int32)]
  refine own_st (T' := s₁) (g' := (mkF m 1 #[rv x, iv (1 : Int32)] [(.ref x)])) (fun _ k_ => XS.aloadN X0.here hx rfl (hb hby d54_0) rfl rfl  k_) ?_
  refine own_kget own_ckE X0 hx hZ hown (host := "") (Or.inl (wd hw 160 rfl)) Via.refl e0 Fl (hb hby d54_1) (q := 4) rfl fun T1 X1 e1 => ?_
  refine own_sp (q := 5) (S' := [(.int (1 : Int32)), (.ref uu)]) (fun _ k_ => XS.iloadN X1.here hx rfl (hb hby d54_4) rfl  k_) ?_
  obtain ⟨cl2, Ar2, q2, S2, N2, H2, G2⟩ := id V_u
  have hin2 : ¬ ((1 : Int32) < 0 ∨ cl2.slots.size ≤ ((1 : Int32)).toNatClampNeg) := inb_of S2 ⟨by decide, by decide⟩
  refine own_sp (q := 6) (S' := [(.ref y1)]) (X1.aaload hx (j := (1 : Int32)) (v := (.ref y1)) (by rw [e1]; exact Ar2.1) (State.isArrayOf_alike hZ.alike Ar2.2.1) rfl Ar2.2.2 hin2 (H2.at hin2 rfl) (g := (mkF m 5 #[rv x, iv (1 : Int32)] [(.int (1 : Int32)), (.ref uu)])) rfl rfl (hb hby d54_5)) ?_
  clear hin2 G2 H2 N2 S2 q2 Ar2 cl2
  exact own_retA X1 hx hret rfl rfl hlk (hb hby d54_6) (by decide) (by decide) ⟨rfl, N0, e1⟩
def Q_gt_32 (Z : State) (x : Addr) (uu : Addr) (kO : ClassId) (y0 : Addr) (y1 : Addr) (y2 : Addr) (h0 : Heap) (n0 : Nat) (v : Option Value) (h : Heap) (L : List Loc) : Prop := (v = some (.ref y2)) ∧ (Fr n0 L) ∧ (h = h0)
theorem rm_gt_32 (l : Launch) (Z : State) (a0 : Array Value) (hw : own_HW a0 Z) (ws : List Jvm.Cond) (x : Addr) (uu : Addr) (kO : ClassId) (y0 : Addr) (y1 : Addr) (y2 : Addr) (h0 : Heap) (n0 : Nat) (O0 : Old Z n0 h0) (Fl : Fld Z h0 x ks11 "elements" ks8 (.ref uu)) (V_u : Arv Z h0 uu kO (.object ks2) (3 : Int32) [(.ref y0), (.ref y1), (.ref y2)] .null) :
    own_MF l own_m64 (Jvm.Cond.code own_m64 bc54 2 (some (.object ks2)) :: ws) (rm4 0 0 0 0) #[(.ref x), (.int (2 : Int32))] Z h0 (Q_gt_32 Z x uu kO y0 y1 y2 h0 n0) := by
  refine own_met (own := ks11) (nme := "get") rfl rfl (plainFor_of_name pn_10) ?_
  intro p e s m below meth c s₁ hx hby hml hown hnm X0 e0 hret hlk hZ
  have N0 := Fr.nil n0
  rw [ef_cdr_2 m x (2 : Int32)]
  refine own_st (T' := s₁) (g' := (mkF m 1 #[rv x, iv (2 : Int32)] [(.ref x)])) (fun _ k_ => XS.aloadN X0.here hx rfl (hb hby d54_0) rfl rfl  k_) ?_
  refine own_kget own_ckE X0 hx hZ hown (host := "") (Or.inl (wd hw 160 rfl)) Via.refl e0 Fl (hb hby d54_1) (q := 4) rfl fun T1 X1 e1 => ?_
  refine own_sp (q := 5) (S' := [(.int (2 : Int32)), (.ref uu)]) (fun _ k_ => XS.iloadN X1.here hx rfl (hb hby d54_4) rfl  k_) ?_
  obtain ⟨cl2, Ar2, q2, S2, N2, H2, G2⟩ := id V_u
  have hin2 : ¬ ((2 : Int32) < 0 ∨ cl2.slots.size ≤ ((2 : Int32)).toNatClampNeg) := inb_of S2 ⟨by decide, by decide⟩
  refine own_sp (q := 6) (S' := [(.ref y2)]) (X1.aaload hx (j := (2 : Int32)) (v := (.ref y2)) (by rw [e1]; exact Ar2.1) (State.isArrayOf_alike hZ.alike Ar2.2.1) rfl Ar2.2.2 hin2 (H2.at hin2 rfl) (g := (mkF m 5 #[rv x, iv (2 : Int32)] [(.int (2 : Int32)), (.ref uu)])) rfl rfl (hb hby d54_5)) ?_
  clear hin2 G2 H2 N2 S2 q2 Ar2 cl2
  exact own_retA X1 hx hret rfl rfl hlk (hb hby d54_6) (by decide) (by decide) ⟨rfl, N0, e1⟩
def own_Bs (Z : State) (w_TEXT : Addr) (w_OPTION : Addr) (w_METHOD : Addr) (w_TARGET : Addr) (w_BODY : Addr) (w_TIME : Addr) (w_NONCE : Addr) (dA : Addr) (clD : Cell) (kO : ClassId) (mir : Addr) (em : Addr) (el : Addr) (oe : Addr) (cz : Int32) : Prop := (Sta Z Z.heap ks9 "TEXT" ks5 (.ref w_TEXT)) ∧ (Sta Z Z.heap ks1 "OPTION" ks7 (.ref w_OPTION)) ∧ (Exa Z Z.heap w_OPTION ks1) ∧ (Sta Z Z.heap ks1 "METHOD" ks7 (.ref w_METHOD)) ∧ (Exa Z Z.heap w_METHOD ks1) ∧ (Sta Z Z.heap ks1 "TARGET" ks7 (.ref w_TARGET)) ∧ (Exa Z Z.heap w_TARGET ks1) ∧ (Sta Z Z.heap ks1 "BODY" ks7 (.ref w_BODY)) ∧ (Exa Z Z.heap w_BODY ks1) ∧ (Sta Z Z.heap ks1 "TIME" ks7 (.ref w_TIME)) ∧ (Exa Z Z.heap w_TIME ks1) ∧ (Sta Z Z.heap ks1 "NONCE" ks7 (.ref w_NONCE)) ∧ (Exa Z Z.heap w_NONCE ks1) ∧ (Sta Z Z.heap ks6 "DEFAULTCAPACITY_EMPTY_ELEMENTDATA" ks8 (.ref dA)) ∧ (Arr Z Z.heap dA clD (.object ks2)) ∧ (clD.slots.size.toInt32 = (0 : Int32)) ∧ (Ovr Z kO ks2) ∧ (Z.vm.findClass ks8 = some kO) ∧ (own_Mir Z ks8 mir) ∧ (Sta Z Z.heap ks19 "EMPTY" ks12 (.ref em)) ∧ (Exa Z Z.heap em ks2) ∧ (Sta Z Z.heap ks19 "EMPTY_LIST" "Ljava/util/ImmutableCollections$ListN;" (.ref el)) ∧ (own_IL Z Z.heap el (1 : Int32)) ∧ (Sta Z Z.heap ks14 "EMPTY" ks15 (.ref oe)) ∧ (Exa Z Z.heap oe ks14) ∧ (Fld Z Z.heap oe ks14 "value" ks12 .null) ∧ (Sta Z Z.heap ks10 "COMPACT_STRINGS" "Z" (.int cz)) ∧ (¬ cz = (0 : Int32))
theorem pd___I : parseMethodDescriptor "()I" = some ⟨[], some .int⟩ := by decide +kernel
theorem seg_H0 (h0 : Heap) (hB : Heap) (n0 : Nat) (i0 : Int32) (i1 : Int32) (i2 : Int32) (i3 : Int32) (i4 : Int32) (i5 : Int32) (ka : Addr) (ra : Addr) (kd : Addr) (tv : Int32) (rq : Int32) (wh : Int32) (hd : Int32) (nc : Int32) (r1 : Addr) (r2 : Addr) (s16 : Addr) (s17 : Addr) (s18 : Addr) (v19 : Addr) (v20 : Addr) (v21 : Addr) (al : Addr) (w_TEXT : Addr) (w_OPTION : Addr) (w_METHOD : Addr) (w_TARGET : Addr) (w_BODY : Addr) (w_TIME : Addr) (w_NONCE : Addr) (dA : Addr) (clD : Cell) (kO : ClassId) (mir : Addr) (em : Addr) (el : Addr) (oe : Addr) (cz : Int32) (p2 : Addr) (q_ : Addr)
    (X0 : Stand p l e room_1 (s.setVm vm0) m args below meth c T0 locs 79 1650) (hx : p.tables.exec = Jvm.exec) (hZs : Z.Warmed39 s.vm) (hZ : Z.Warmed39 (s.setVm vm0).vm) (hS0 : s.Since vm0 k0) (hk0 : k0 ≤ hB.size) (hw : own_HW a0 Z) (hby : c.code = code) (hml : c.maxLocals = 27) (howns : s.vm.findClass ks3 = some m.cls) (hown : (s.setVm vm0).vm.findClass ks3 = some m.cls) (hnm : meth.name = "law") (hret : meth.sig.returnType = some .boolean) (hlk : meth.locks = false) (e0 : T0.heap = hB) (N0 : Fr n0 locs) (O0 : Old Z n0 hB) (HBs : own_Bs Z w_TEXT w_OPTION w_METHOD w_TARGET w_BODY w_TIME w_NONCE dA clD kO mir em el oe cz) (Fq : Fld Z hB q_ ks0 "choices" ks16 (.ref el)) (Eq : Exa Z hB q_ ks0) :
    own_V p e below s room_1.cells room_1.slots (fun v h L _ => own_L n0 v h L) T0 (mkF m 575 #[iv i0, iv i1, iv i2, iv i3, iv i4, iv i5, rv ka, rv ra, rv kd, iv tv, iv rq, iv wh, iv hd, iv (0 : Int32), rv r1, rv r2, rv s16, rv s17, rv s18, rv v19, rv v20, rv v21, rv al, rv p2, rv q_, iv (1 : Int32), .unset] []) := by
  obtain ⟨S_TEXT, S_OPTION, X_OPTION, S_METHOD, X_METHOD, S_TARGET, X_TARGET, S_BODY, X_BODY, S_TIME, X_TIME, S_NONCE, X_NONCE, SDe, AD, LD, OV, FC, MIR, SEm, X_em, S_el, IL_el, S_oe, X_oe, F_oe, SC, hcz⟩ := id HBs
  rcases own_ILe IL_el O0.2 with ⟨E_l, hne⟩ | ⟨E_l, F_n, uu, cl, F_e, A_u, hne⟩
  · exact absurd hne (by decide)
  have hs0 : cl.slots.size.toInt32 = (0 : Int32) := Decidable.byContradiction fun q => absurd ((if_neg q).symm.trans hne) (by decide)
  refine own_stV (T' := T0) (g' := (mkF m 577 #[iv i0, iv i1, iv i2, iv i3, iv i4, iv i5, rv ka, rv ra, rv kd, iv tv, iv rq, iv wh, iv hd, iv (0 : Int32), rv r1, rv r2, rv s16, rv s17, rv s18, rv v19, rv v20, rv v21, rv al, rv p2, rv q_, iv (1 : Int32), .unset] [(.ref q_)])) (fun _ k_ => XS.aload X0.here hx rfl (hb hby at_575) rfl rfl  k_) ?_
  refine own_kcV own_ckV X0 hx hZ hown hml (y := own_m57) (wd hw 236 rfl) (wd hw 237 rfl) (wd hw 239 rfl) (wd hw 238 rfl) (wd hw 97 rfl) (wd hw 240 rfl) (by decide) Eq (rm_get_choices l Z a0 hw [] q_ el hB n0 O0 Fq) (by decide) (by decide) (W := 0) (Nat.le_of_eq rfl) (argsL := []) (rest := []) (lenOf pd___Ljava_util_List_ rfl) rfl rfl (hb hby at_577) rfl e0 (by decide) (by decide) (c' := 79) (s' := 1650) rfl rfl (q := 580) rfl fun _ T1 L1 X1 hQ1 => ?_
  obtain ⟨rfl, Nq1, eq1⟩ := hQ1
  have N1 := Fr.app N0 Nq1
  show own_V p e below s _ _ _ T1 (mkF m 580 _ [(.ref el)])
  refine own_stV (T' := T1) (g' := (mkF m 582 #[iv i0, iv i1, iv i2, iv i3, iv i4, iv i5, rv ka, rv ra, rv kd, iv tv, iv rq, iv wh, iv hd, iv (0 : Int32), rv r1, rv r2, rv s16, rv s17, rv s18, rv v19, rv v20, rv v21, rv al, rv p2, rv q_, iv (1 : Int32), rv el] [])) (fun _ k_ => XS.astore X1.here hx rfl (hb hby at_580) rfl rfl (l' := #[iv i0, iv i1, iv i2, iv i3, iv i4, iv i5, rv ka, rv ra, rv kd, iv tv, iv rq, iv wh, iv hd, iv (0 : Int32), rv r1, rv r2, rv s16, rv s17, rv s18, rv v19, rv v20, rv v21, rv al, rv p2, rv q_, iv (1 : Int32), rv el]) rfl k_) ?_
  refine own_spV (q := 584) (S' := [(.int (1 : Int32))]) (fun _ k_ => XS.iload X1.here hx rfl (hb hby at_582) rfl  k_) ?_
  refine own_spV (q := 587) (S' := []) (fun _ k_ => XS.ifNo X1.here hx rfl (hb hby at_584) rfl ((if0 _ _).trans (feq (by decide : ¬ ((1 : Int32) = (0 : Int32)))).1) k_) ?_
  refine own_spV (q := 589) (S' := [(.ref el)]) (fun _ k_ => XS.aload X1.here hx rfl (hb hby at_587) rfl rfl  k_) ?_
  refine own_kcF own_ckV X1 hx hZ hown hml (z := own_m65) (y := own_m61) (wd hw 241 rfl) (wd hw 242 rfl) (mvT hZ (wd hw 243 rfl)) (wd hw 244 rfl) (wd hw 245 rfl) (wd hw 246 rfl) (wd hw 247 rfl) (wd hw 150 rfl) (wd hw 158 rfl) (wd hw 248 rfl) (by decide) E_l (rm_sz_0 l Z a0 hw [] el uu cl hB n0 O0 F_e A_u) (by decide) (by decide) (W := 0) (Nat.le_of_eq rfl) (argsL := []) (rest := []) (lenOf pd___I rfl) rfl rfl (hb hby at_589) rfl eq1 (by decide) (by decide) (c' := 79) (s' := 1650) rfl rfl (q := 594) rfl fun _ T2 L2 X2 hQ2 => ?_
  obtain ⟨rfl, Nq2, eq2⟩ := hQ2
  have N2 := Fr.app N1 Nq2
  show own_V p e below s _ _ _ T2 (mkF m 594 _ [(.int (cl.slots.size.toInt32))])
  refine own_spV (q := 596) (S' := [(.int (0 : Int32)), (.int (cl.slots.size.toInt32))]) (fun _ k_ => XS.iload X2.here hx rfl (hb hby at_594) rfl  k_) ?_
  refine own_spV (q := 599) (S' := []) (fun _ k_ => XS.icmpNo X2.here hx rfl (hb hby at_596) rfl (teq (hs0 : (cl.slots.size.toInt32) = (0 : Int32))).2 k_) ?_
  refine own_spV (q := 600) (S' := [(.int (1 : Int32))]) (fun _ k_ => XS.iconst X2.here hx rfl (hb hby at_599) k_) ?_
  refine own_spV (q := 604) (S' := [(.int (1 : Int32))]) (fun _ k_ => XS.goto X2.here hx rfl (pc0 := 600) (pc' := 604) rfl (hb hby at_600) (by decide) (by decide) k_) ?_
  refine own_spV (q := 606) (S' := []) (fun _ k_ => XS.istore X2.here hx rfl (hb hby at_604) rfl (l' := #[iv i0, iv i1, iv i2, iv i3, iv i4, iv i5, rv ka, rv ra, rv kd, iv tv, iv rq, iv wh, iv hd, iv (0 : Int32), rv r1, rv r2, rv s16, rv s17, rv s18, rv v19, rv v20, rv v21, rv al, rv p2, rv q_, iv (1 : Int32), rv el]) rfl k_) ?_
  refine own_spV (q := 608) (S' := [(.int (1 : Int32))]) (fun _ k_ => XS.iload X2.here hx rfl (hb hby at_606) rfl  k_) ?_
  refine own_spV (q := 611) (S' := []) (fun _ k_ => XS.ifNo X2.here hx rfl (hb hby at_608) rfl ((if0 _ _).trans (feq (by decide : ¬ ((1 : Int32) = (0 : Int32)))).1) k_) ?_
  refine own_spV (q := 613) (S' := [(.int (0 : Int32))]) (fun _ k_ => XS.iload X2.here hx rfl (hb hby at_611) rfl  k_) ?_
  refine own_spV (q := 614) (S' := [(.int (1 : Int32)), (.int (0 : Int32))]) (fun _ k_ => XS.iconst X2.here hx rfl (hb hby at_613) k_) ?_
  refine own_spV (q := 635) (S' := []) (fun _ k_ => XS.icmpYes X2.here hx rfl (pc0 := 614) (pc' := 635) rfl (hb hby at_614) rfl (tlt (by decide : (0 : Int32) < (1 : Int32))).1 (by decide) (by decide) k_) ?_
  refine own_spV (q := 637) (S' := [(.int (1 : Int32))]) (fun _ k_ => XS.iload X2.here hx rfl (hb hby at_635) rfl  k_) ?_
  refine own_spV (q := 640) (S' := []) (fun _ k_ => XS.ifNo X2.here hx rfl (hb hby at_637) rfl ((if0 _ _).trans (feq (by decide : ¬ ((1 : Int32) = (0 : Int32)))).1) k_) ?_
  refine own_spV (q := 642) (S' := [(.int (0 : Int32))]) (fun _ k_ => XS.iload X2.here hx rfl (hb hby at_640) rfl  k_) ?_
  refine own_spV (q := 643) (S' := [(.int (2 : Int32)), (.int (0 : Int32))]) (fun _ k_ => XS.iconst X2.here hx rfl (hb hby at_642) k_) ?_
  refine own_spV (q := 664) (S' := []) (fun _ k_ => XS.icmpYes X2.here hx rfl (pc0 := 643) (pc' := 664) rfl (hb hby at_643) rfl (tlt (by decide : (0 : Int32) < (2 : Int32))).1 (by decide) (by decide) k_) ?_
  refine own_spV (q := 666) (S' := [(.int (1 : Int32))]) (fun _ k_ => XS.iload X2.here hx rfl (hb hby at_664) rfl  k_) ?_
  refine own_spV (q := 669) (S' := []) (fun _ k_ => XS.ifNo X2.here hx rfl (hb hby at_666) rfl ((if0 _ _).trans (feq (by decide : ¬ ((1 : Int32) = (0 : Int32)))).1) k_) ?_
  refine own_spV (q := 671) (S' := [(.int (0 : Int32))]) (fun _ k_ => XS.iload X2.here hx rfl (hb hby at_669) rfl  k_) ?_
  refine own_spV (q := 672) (S' := [(.int (3 : Int32)), (.int (0 : Int32))]) (fun _ k_ => XS.iconst X2.here hx rfl (hb hby at_671) k_) ?_
  refine own_spV (q := 693) (S' := []) (fun _ k_ => XS.icmpYes X2.here hx rfl (pc0 := 672) (pc' := 693) rfl (hb hby at_672) rfl (tlt (by decide : (0 : Int32) < (3 : Int32))).1 (by decide) (by decide) k_) ?_
  refine own_spV (q := 695) (S' := [(.int (1 : Int32))]) (fun _ k_ => XS.iload X2.here hx rfl (hb hby at_693) rfl  k_) ?_
  exact own_retNV X2 hS0 (by rw [eq2]; exact hk0) hx (t := .boolean) hret (by simp) hlk (hb hby at_695) (by decide) (by decide) ⟨rfl, N2⟩
theorem pd__I_Ljava_lang_Object_ : parseMethodDescriptor "(I)Ljava/lang/Object;" = some ⟨[.int], some (.object "java/lang/Object")⟩ := by decide +kernel
theorem pd__Ljava_lang_Object__Z : parseMethodDescriptor "(Ljava/lang/Object;)Z" = some ⟨[(.object "java/lang/Object")], some .boolean⟩ := by decide +kernel
theorem seg_H1 (h0 : Heap) (hB : Heap) (n0 : Nat) (i0 : Int32) (i1 : Int32) (i2 : Int32) (i3 : Int32) (i4 : Int32) (i5 : Int32) (ka : Addr) (ra : Addr) (kd : Addr) (tv : Int32) (rq : Int32) (wh : Int32) (hd : Int32) (nc : Int32) (r1 : Addr) (r2 : Addr) (s16 : Addr) (s17 : Addr) (s18 : Addr) (v19 : Addr) (v20 : Addr) (v21 : Addr) (al : Addr) (w_TEXT : Addr) (w_OPTION : Addr) (w_METHOD : Addr) (w_TARGET : Addr) (w_BODY : Addr) (w_TIME : Addr) (w_NONCE : Addr) (dA : Addr) (clD : Cell) (kO : ClassId) (mir : Addr) (em : Addr) (el : Addr) (oe : Addr) (cz : Int32) (p2 : Addr) (q_ : Addr) (ch : Addr)
    (X0 : Stand p l e room_1 (s.setVm vm0) m args below meth c T0 locs 79 1650) (hx : p.tables.exec = Jvm.exec) (hZs : Z.Warmed39 s.vm) (hZ : Z.Warmed39 (s.setVm vm0).vm) (hS0 : s.Since vm0 k0) (hk0 : k0 ≤ hB.size) (hw : own_HW a0 Z) (hby : c.code = code) (hml : c.maxLocals = 27) (howns : s.vm.findClass ks3 = some m.cls) (hown : (s.setVm vm0).vm.findClass ks3 = some m.cls) (hnm : meth.name = "law") (hret : meth.sig.returnType = some .boolean) (hlk : meth.locks = false) (e0 : T0.heap = hB) (N0 : Fr n0 locs) (O0 : Old Z n0 hB) (HBs : own_Bs Z w_TEXT w_OPTION w_METHOD w_TARGET w_BODY w_TIME w_NONCE dA clD kO mir em el oe cz) (E_v19 : Exa Z hB v19 ks10) (Fq : Fld Z hB q_ ks0 "choices" ks16 (.ref ch)) (Eq : Exa Z hB q_ ks0) (LX0 : Exa Z hB ch ks4) (LX1 : Fld Z hB ch ks4 "e0" ks12 (.ref v19)) (LX2 : Fld Z hB ch ks4 "e1" ks12 (.ref em)) :
    own_V p e below s room_1.cells room_1.slots (fun v h L _ => own_L n0 v h L) T0 (mkF m 575 #[iv i0, iv i1, iv i2, iv i3, iv i4, iv i5, rv ka, rv ra, rv kd, iv tv, iv rq, iv wh, iv hd, iv (1 : Int32), rv r1, rv r2, rv s16, rv s17, rv s18, rv v19, rv v20, rv v21, rv al, rv p2, rv q_, iv (1 : Int32), .unset] []) := by
  obtain ⟨S_TEXT, S_OPTION, X_OPTION, S_METHOD, X_METHOD, S_TARGET, X_TARGET, S_BODY, X_BODY, S_TIME, X_TIME, S_NONCE, X_NONCE, SDe, AD, LD, OV, FC, MIR, SEm, X_em, S_el, IL_el, S_oe, X_oe, F_oe, SC, hcz⟩ := id HBs
  refine own_stV (T' := T0) (g' := (mkF m 577 #[iv i0, iv i1, iv i2, iv i3, iv i4, iv i5, rv ka, rv ra, rv kd, iv tv, iv rq, iv wh, iv hd, iv (1 : Int32), rv r1, rv r2, rv s16, rv s17, rv s18, rv v19, rv v20, rv v21, rv al, rv p2, rv q_, iv (1 : Int32), .unset] [(.ref q_)])) (fun _ k_ => XS.aload X0.here hx rfl (hb hby at_575) rfl rfl  k_) ?_
  refine own_kcV own_ckV X0 hx hZ hown hml (y := own_m57) (wd hw 236 rfl) (wd hw 237 rfl) (wd hw 239 rfl) (wd hw 238 rfl) (wd hw 97 rfl) (wd hw 240 rfl) (by decide) Eq (rm_get_choices l Z a0 hw [] q_ ch hB n0 O0 Fq) (by decide) (by decide) (W := 0) (Nat.le_of_eq rfl) (argsL := []) (rest := []) (lenOf pd___Ljava_util_List_ rfl) rfl rfl (hb hby at_577) rfl e0 (by decide) (by decide) (c' := 79) (s' := 1650) rfl rfl (q := 580) rfl fun _ T1 L1 X1 hQ1 => ?_
  obtain ⟨rfl, Nq1, eq1⟩ := hQ1
  have N1 := Fr.app N0 Nq1
  show own_V p e below s _ _ _ T1 (mkF m 580 _ [(.ref ch)])
  refine own_stV (T' := T1) (g' := (mkF m 582 #[iv i0, iv i1, iv i2, iv i3, iv i4, iv i5, rv ka, rv ra, rv kd, iv tv, iv rq, iv wh, iv hd, iv (1 : Int32), rv r1, rv r2, rv s16, rv s17, rv s18, rv v19, rv v20, rv v21, rv al, rv p2, rv q_, iv (1 : Int32), rv ch] [])) (fun _ k_ => XS.astore X1.here hx rfl (hb hby at_580) rfl rfl (l' := #[iv i0, iv i1, iv i2, iv i3, iv i4, iv i5, rv ka, rv ra, rv kd, iv tv, iv rq, iv wh, iv hd, iv (1 : Int32), rv r1, rv r2, rv s16, rv s17, rv s18, rv v19, rv v20, rv v21, rv al, rv p2, rv q_, iv (1 : Int32), rv ch]) rfl k_) ?_
  refine own_spV (q := 584) (S' := [(.int (1 : Int32))]) (fun _ k_ => XS.iload X1.here hx rfl (hb hby at_582) rfl  k_) ?_
  refine own_spV (q := 587) (S' := []) (fun _ k_ => XS.ifNo X1.here hx rfl (hb hby at_584) rfl ((if0 _ _).trans (feq (by decide : ¬ ((1 : Int32) = (0 : Int32)))).1) k_) ?_
  refine own_spV (q := 589) (S' := [(.ref ch)]) (fun _ k_ => XS.aload X1.here hx rfl (hb hby at_587) rfl rfl  k_) ?_
  refine own_kcF own_ckV X1 hx hZ hown hml (z := own_m65) (y := own_m62) (wd hw 241 rfl) (wd hw 242 rfl) (mvT hZ (wd hw 243 rfl)) (wd hw 410 rfl) (wd hw 411 rfl) (wd hw 412 rfl) (wd hw 413 rfl) (wd hw 408 rfl) (wd hw 390 rfl) (wd hw 414 rfl) (by decide) LX0 (rm_sz_1 l Z a0 hw [] ch v19 em hB n0 O0 LX1 LX2 SEm) (by decide) (by decide) (W := 0) (Nat.le_of_eq rfl) (argsL := []) (rest := []) (lenOf pd___I rfl) rfl rfl (hb hby at_589) rfl eq1 (by decide) (by decide) (c' := 79) (s' := 1650) rfl rfl (q := 594) rfl fun _ T2 L2 X2 hQ2 => ?_
  obtain ⟨rfl, Nq2, eq2⟩ := hQ2
  have N2 := Fr.app N1 Nq2
  show own_V p e below s _ _ _ T2 (mkF m 594 _ [(.int (1 : Int32))])
  refine own_spV (q := 596) (S' := [(.int (1 : Int32)), (.int (1 : Int32))]) (fun _ k_ => XS.iload X2.here hx rfl (hb hby at_594) rfl  k_) ?_
  refine own_spV (q := 599) (S' := []) (fun _ k_ => XS.icmpNo X2.here hx rfl (hb hby at_596) rfl (teq (rfl : (1 : Int32) = (1 : Int32))).2 k_) ?_
  refine own_spV (q := 600) (S' := [(.int (1 : Int32))]) (fun _ k_ => XS.iconst X2.here hx rfl (hb hby at_599) k_) ?_
  refine own_spV (q := 604) (S' := [(.int (1 : Int32))]) (fun _ k_ => XS.goto X2.here hx rfl (pc0 := 600) (pc' := 604) rfl (hb hby at_600) (by decide) (by decide) k_) ?_
  refine own_spV (q := 606) (S' := []) (fun _ k_ => XS.istore X2.here hx rfl (hb hby at_604) rfl (l' := #[iv i0, iv i1, iv i2, iv i3, iv i4, iv i5, rv ka, rv ra, rv kd, iv tv, iv rq, iv wh, iv hd, iv (1 : Int32), rv r1, rv r2, rv s16, rv s17, rv s18, rv v19, rv v20, rv v21, rv al, rv p2, rv q_, iv (1 : Int32), rv ch]) rfl k_) ?_
  refine own_spV (q := 608) (S' := [(.int (1 : Int32))]) (fun _ k_ => XS.iload X2.here hx rfl (hb hby at_606) rfl  k_) ?_
  refine own_spV (q := 611) (S' := []) (fun _ k_ => XS.ifNo X2.here hx rfl (hb hby at_608) rfl ((if0 _ _).trans (feq (by decide : ¬ ((1 : Int32) = (0 : Int32)))).1) k_) ?_
  refine own_spV (q := 613) (S' := [(.int (1 : Int32))]) (fun _ k_ => XS.iload X2.here hx rfl (hb hby at_611) rfl  k_) ?_
  refine own_spV (q := 614) (S' := [(.int (1 : Int32)), (.int (1 : Int32))]) (fun _ k_ => XS.iconst X2.here hx rfl (hb hby at_613) k_) ?_
  refine own_spV (q := 617) (S' := []) (fun _ k_ => XS.icmpNo X2.here hx rfl (hb hby at_614) rfl (flt (by decide : ¬ ((1 : Int32) < (1 : Int32)))).1 k_) ?_
  refine own_spV (q := 619) (S' := [(.ref ch)]) (fun _ k_ => XS.aload X2.here hx rfl (hb hby at_617) rfl rfl  k_) ?_
  refine own_spV (q := 620) (S' := [(.int (0 : Int32)), (.ref ch)]) (fun _ k_ => XS.iconst X2.here hx rfl (hb hby at_619) k_) ?_
  refine own_kcF own_ckV X2 hx hZ hown hml (z := own_m66) (y := own_m63) (wd hw 359 rfl) (wd hw 360 rfl) (mvT hZ (wd hw 361 rfl)) (wd hw 416 rfl) (wd hw 417 rfl) (wd hw 418 rfl) (wd hw 419 rfl) (wd hw 408 rfl) (wd hw 390 rfl) (wd hw 420 rfl) (by decide) LX0 (rm_gt_10 l Z a0 hw [] ch v19 em hB n0 O0 LX1 LX2) (by decide) (by decide) (W := 0) (Nat.le_of_eq rfl) (argsL := [(.int (0 : Int32))]) (rest := []) (lenOf pd__I_Ljava_lang_Object_ rfl) rfl rfl (hb hby at_620) rfl eq2 (by decide) (by decide) (c' := 79) (s' := 1650) rfl rfl (q := 625) rfl fun _ T3 L3 X3 hQ3 => ?_
  obtain ⟨rfl, Nq3, eq3⟩ := hQ3
  have N3 := Fr.app N2 Nq3
  show own_V p e below s _ _ _ T3 (mkF m 625 _ [(.ref v19)])
  obtain ⟨T4, X4, e4, st4⟩ := castY X3 hx hZ hown (wd hw 27 rfl) eq3 (Ins.self E_v19) (g := (mkF m 625 #[iv i0, iv i1, iv i2, iv i3, iv i4, iv i5, rv ka, rv ra, rv kd, iv tv, iv rq, iv wh, iv hd, iv (1 : Int32), rv r1, rv r2, rv s16, rv s17, rv s18, rv v19, rv v20, rv v21, rv al, rv p2, rv q_, iv (1 : Int32), rv ch] [(.ref v19)])) rfl rfl (hb hby at_625)
  refine own_spV (q := 628) (S' := [(.ref v19)]) st4 ?_
  clear st4
  refine own_spV (q := 630) (S' := [(.ref v19), (.ref v19)]) (fun _ k_ => XS.aload X4.here hx rfl (hb hby at_628) rfl rfl  k_) ?_
  refine own_kcV own_ckV X4 hx hZ hown hml (y := own_m41) (wd hw 200 rfl) (wd hw 201 rfl) (wd hw 203 rfl) (wd hw 202 rfl) (wd hw 29 rfl) (wd hw 204 rfl) (by decide) E_v19 (rm_eqs l Z a0 hw [] v19 hB n0 O0) (by decide) (by decide) (W := 0) (Nat.le_of_eq rfl) (argsL := [(.ref v19)]) (rest := []) (lenOf pd__Ljava_lang_Object__Z rfl) rfl rfl (hb hby at_630) rfl e4 (by decide) (by decide) (c' := 79) (s' := 1650) rfl rfl (q := 633) rfl fun _ T5 L5 X5 hQ5 => ?_
  obtain ⟨rfl, Nq5, eq5⟩ := hQ5
  have N5 := Fr.app N3 Nq5
  show own_V p e below s _ _ _ T5 (mkF m 633 _ [(.int (1 : Int32))])
  refine own_spV (q := 635) (S' := []) (fun _ k_ => XS.istore X5.here hx rfl (hb hby at_633) rfl (l' := #[iv i0, iv i1, iv i2, iv i3, iv i4, iv i5, rv ka, rv ra, rv kd, iv tv, iv rq, iv wh, iv hd, iv (1 : Int32), rv r1, rv r2, rv s16, rv s17, rv s18, rv v19, rv v20, rv v21, rv al, rv p2, rv q_, iv (1 : Int32), rv ch]) rfl k_) ?_
  refine own_spV (q := 637) (S' := [(.int (1 : Int32))]) (fun _ k_ => XS.iload X5.here hx rfl (hb hby at_635) rfl  k_) ?_
  refine own_spV (q := 640) (S' := []) (fun _ k_ => XS.ifNo X5.here hx rfl (hb hby at_637) rfl ((if0 _ _).trans (feq (by decide : ¬ ((1 : Int32) = (0 : Int32)))).1) k_) ?_
  refine own_spV (q := 642) (S' := [(.int (1 : Int32))]) (fun _ k_ => XS.iload X5.here hx rfl (hb hby at_640) rfl  k_) ?_
  refine own_spV (q := 643) (S' := [(.int (2 : Int32)), (.int (1 : Int32))]) (fun _ k_ => XS.iconst X5.here hx rfl (hb hby at_642) k_) ?_
  refine own_spV (q := 664) (S' := []) (fun _ k_ => XS.icmpYes X5.here hx rfl (pc0 := 643) (pc' := 664) rfl (hb hby at_643) rfl (tlt (by decide : (1 : Int32) < (2 : Int32))).1 (by decide) (by decide) k_) ?_
  refine own_spV (q := 666) (S' := [(.int (1 : Int32))]) (fun _ k_ => XS.iload X5.here hx rfl (hb hby at_664) rfl  k_) ?_
  refine own_spV (q := 669) (S' := []) (fun _ k_ => XS.ifNo X5.here hx rfl (hb hby at_666) rfl ((if0 _ _).trans (feq (by decide : ¬ ((1 : Int32) = (0 : Int32)))).1) k_) ?_
  refine own_spV (q := 671) (S' := [(.int (1 : Int32))]) (fun _ k_ => XS.iload X5.here hx rfl (hb hby at_669) rfl  k_) ?_
  refine own_spV (q := 672) (S' := [(.int (3 : Int32)), (.int (1 : Int32))]) (fun _ k_ => XS.iconst X5.here hx rfl (hb hby at_671) k_) ?_
  refine own_spV (q := 693) (S' := []) (fun _ k_ => XS.icmpYes X5.here hx rfl (pc0 := 672) (pc' := 693) rfl (hb hby at_672) rfl (tlt (by decide : (1 : Int32) < (3 : Int32))).1 (by decide) (by decide) k_) ?_
  refine own_spV (q := 695) (S' := [(.int (1 : Int32))]) (fun _ k_ => XS.iload X5.here hx rfl (hb hby at_693) rfl  k_) ?_
  exact own_retNV X5 hS0 (by rw [eq5]; exact hk0) hx (t := .boolean) hret (by simp) hlk (hb hby at_695) (by decide) (by decide) ⟨rfl, N5⟩
theorem seg_H2 (h0 : Heap) (hB : Heap) (n0 : Nat) (i0 : Int32) (i1 : Int32) (i2 : Int32) (i3 : Int32) (i4 : Int32) (i5 : Int32) (ka : Addr) (ra : Addr) (kd : Addr) (tv : Int32) (rq : Int32) (wh : Int32) (hd : Int32) (nc : Int32) (r1 : Addr) (r2 : Addr) (s16 : Addr) (s17 : Addr) (s18 : Addr) (v19 : Addr) (v20 : Addr) (v21 : Addr) (al : Addr) (w_TEXT : Addr) (w_OPTION : Addr) (w_METHOD : Addr) (w_TARGET : Addr) (w_BODY : Addr) (w_TIME : Addr) (w_NONCE : Addr) (dA : Addr) (clD : Cell) (kO : ClassId) (mir : Addr) (em : Addr) (el : Addr) (oe : Addr) (cz : Int32) (p2 : Addr) (q_ : Addr) (ch : Addr)
    (X0 : Stand p l e room_1 (s.setVm vm0) m args below meth c T0 locs 79 1650) (hx : p.tables.exec = Jvm.exec) (hZs : Z.Warmed39 s.vm) (hZ : Z.Warmed39 (s.setVm vm0).vm) (hS0 : s.Since vm0 k0) (hk0 : k0 ≤ hB.size) (hw : own_HW a0 Z) (hby : c.code = code) (hml : c.maxLocals = 27) (howns : s.vm.findClass ks3 = some m.cls) (hown : (s.setVm vm0).vm.findClass ks3 = some m.cls) (hnm : meth.name = "law") (hret : meth.sig.returnType = some .boolean) (hlk : meth.locks = false) (e0 : T0.heap = hB) (N0 : Fr n0 locs) (O0 : Old Z n0 hB) (HBs : own_Bs Z w_TEXT w_OPTION w_METHOD w_TARGET w_BODY w_TIME w_NONCE dA clD kO mir em el oe cz) (E_v19 : Exa Z hB v19 ks10) (E_v20 : Exa Z hB v20 ks10) (hye : v20 ≠ em) (Fq : Fld Z hB q_ ks0 "choices" ks16 (.ref ch)) (Eq : Exa Z hB q_ ks0) (LX0 : Exa Z hB ch ks4) (LX1 : Fld Z hB ch ks4 "e0" ks12 (.ref v19)) (LX2 : Fld Z hB ch ks4 "e1" ks12 (.ref v20)) :
    own_V p e below s room_1.cells room_1.slots (fun v h L _ => own_L n0 v h L) T0 (mkF m 575 #[iv i0, iv i1, iv i2, iv i3, iv i4, iv i5, rv ka, rv ra, rv kd, iv tv, iv rq, iv wh, iv hd, iv (2 : Int32), rv r1, rv r2, rv s16, rv s17, rv s18, rv v19, rv v20, rv v21, rv al, rv p2, rv q_, iv (1 : Int32), .unset] []) := by
  obtain ⟨S_TEXT, S_OPTION, X_OPTION, S_METHOD, X_METHOD, S_TARGET, X_TARGET, S_BODY, X_BODY, S_TIME, X_TIME, S_NONCE, X_NONCE, SDe, AD, LD, OV, FC, MIR, SEm, X_em, S_el, IL_el, S_oe, X_oe, F_oe, SC, hcz⟩ := id HBs
  refine own_stV (T' := T0) (g' := (mkF m 577 #[iv i0, iv i1, iv i2, iv i3, iv i4, iv i5, rv ka, rv ra, rv kd, iv tv, iv rq, iv wh, iv hd, iv (2 : Int32), rv r1, rv r2, rv s16, rv s17, rv s18, rv v19, rv v20, rv v21, rv al, rv p2, rv q_, iv (1 : Int32), .unset] [(.ref q_)])) (fun _ k_ => XS.aload X0.here hx rfl (hb hby at_575) rfl rfl  k_) ?_
  refine own_kcV own_ckV X0 hx hZ hown hml (y := own_m57) (wd hw 236 rfl) (wd hw 237 rfl) (wd hw 239 rfl) (wd hw 238 rfl) (wd hw 97 rfl) (wd hw 240 rfl) (by decide) Eq (rm_get_choices l Z a0 hw [] q_ ch hB n0 O0 Fq) (by decide) (by decide) (W := 0) (Nat.le_of_eq rfl) (argsL := []) (rest := []) (lenOf pd___Ljava_util_List_ rfl) rfl rfl (hb hby at_577) rfl e0 (by decide) (by decide) (c' := 79) (s' := 1650) rfl rfl (q := 580) rfl fun _ T1 L1 X1 hQ1 => ?_
  obtain ⟨rfl, Nq1, eq1⟩ := hQ1
  have N1 := Fr.app N0 Nq1
  show own_V p e below s _ _ _ T1 (mkF m 580 _ [(.ref ch)])
  refine own_stV (T' := T1) (g' := (mkF m 582 #[iv i0, iv i1, iv i2, iv i3, iv i4, iv i5, rv ka, rv ra, rv kd, iv tv, iv rq, iv wh, iv hd, iv (2 : Int32), rv r1, rv r2, rv s16, rv s17, rv s18, rv v19, rv v20, rv v21, rv al, rv p2, rv q_, iv (1 : Int32), rv ch] [])) (fun _ k_ => XS.astore X1.here hx rfl (hb hby at_580) rfl rfl (l' := #[iv i0, iv i1, iv i2, iv i3, iv i4, iv i5, rv ka, rv ra, rv kd, iv tv, iv rq, iv wh, iv hd, iv (2 : Int32), rv r1, rv r2, rv s16, rv s17, rv s18, rv v19, rv v20, rv v21, rv al, rv p2, rv q_, iv (1 : Int32), rv ch]) rfl k_) ?_
  refine own_spV (q := 584) (S' := [(.int (1 : Int32))]) (fun _ k_ => XS.iload X1.here hx rfl (hb hby at_582) rfl  k_) ?_
  refine own_spV (q := 587) (S' := []) (fun _ k_ => XS.ifNo X1.here hx rfl (hb hby at_584) rfl ((if0 _ _).trans (feq (by decide : ¬ ((1 : Int32) = (0 : Int32)))).1) k_) ?_
  refine own_spV (q := 589) (S' := [(.ref ch)]) (fun _ k_ => XS.aload X1.here hx rfl (hb hby at_587) rfl rfl  k_) ?_
  refine own_kcF own_ckV X1 hx hZ hown hml (z := own_m65) (y := own_m62) (wd hw 241 rfl) (wd hw 242 rfl) (mvT hZ (wd hw 243 rfl)) (wd hw 410 rfl) (wd hw 411 rfl) (wd hw 412 rfl) (wd hw 413 rfl) (wd hw 408 rfl) (wd hw 390 rfl) (wd hw 414 rfl) (by decide) LX0 (rm_sz_2 l Z a0 hw [] ch v19 v20 em hB n0 O0 LX1 LX2 hye SEm) (by decide) (by decide) (W := 0) (Nat.le_of_eq rfl) (argsL := []) (rest := []) (lenOf pd___I rfl) rfl rfl (hb hby at_589) rfl eq1 (by decide) (by decide) (c' := 79) (s' := 1650) rfl rfl (q := 594) rfl fun _ T2 L2 X2 hQ2 => ?_
  obtain ⟨rfl, Nq2, eq2⟩ := hQ2
  have N2 := Fr.app N1 Nq2
  show own_V p e below s _ _ _ T2 (mkF m 594 _ [(.int (2 : Int32))])
  refine own_spV (q := 596) (S' := [(.int (2 : Int32)), (.int (2 : Int32))]) (fun _ k_ => XS.iload X2.here hx rfl (hb hby at_594) rfl  k_) ?_
  refine own_spV (q := 599) (S' := []) (fun _ k_ => XS.icmpNo X2.here hx rfl (hb hby at_596) rfl (teq (rfl : (2 : Int32) = (2 : Int32))).2 k_) ?_
  refine own_spV (q := 600) (S' := [(.int (1 : Int32))]) (fun _ k_ => XS.iconst X2.here hx rfl (hb hby at_599) k_) ?_
  refine own_spV (q := 604) (S' := [(.int (1 : Int32))]) (fun _ k_ => XS.goto X2.here hx rfl (pc0 := 600) (pc' := 604) rfl (hb hby at_600) (by decide) (by decide) k_) ?_
  refine own_spV (q := 606) (S' := []) (fun _ k_ => XS.istore X2.here hx rfl (hb hby at_604) rfl (l' := #[iv i0, iv i1, iv i2, iv i3, iv i4, iv i5, rv ka, rv ra, rv kd, iv tv, iv rq, iv wh, iv hd, iv (2 : Int32), rv r1, rv r2, rv s16, rv s17, rv s18, rv v19, rv v20, rv v21, rv al, rv p2, rv q_, iv (1 : Int32), rv ch]) rfl k_) ?_
  refine own_spV (q := 608) (S' := [(.int (1 : Int32))]) (fun _ k_ => XS.iload X2.here hx rfl (hb hby at_606) rfl  k_) ?_
  refine own_spV (q := 611) (S' := []) (fun _ k_ => XS.ifNo X2.here hx rfl (hb hby at_608) rfl ((if0 _ _).trans (feq (by decide : ¬ ((1 : Int32) = (0 : Int32)))).1) k_) ?_
  refine own_spV (q := 613) (S' := [(.int (2 : Int32))]) (fun _ k_ => XS.iload X2.here hx rfl (hb hby at_611) rfl  k_) ?_
  refine own_spV (q := 614) (S' := [(.int (1 : Int32)), (.int (2 : Int32))]) (fun _ k_ => XS.iconst X2.here hx rfl (hb hby at_613) k_) ?_
  refine own_spV (q := 617) (S' := []) (fun _ k_ => XS.icmpNo X2.here hx rfl (hb hby at_614) rfl (flt (by decide : ¬ ((2 : Int32) < (1 : Int32)))).1 k_) ?_
  refine own_spV (q := 619) (S' := [(.ref ch)]) (fun _ k_ => XS.aload X2.here hx rfl (hb hby at_617) rfl rfl  k_) ?_
  refine own_spV (q := 620) (S' := [(.int (0 : Int32)), (.ref ch)]) (fun _ k_ => XS.iconst X2.here hx rfl (hb hby at_619) k_) ?_
  refine own_kcF own_ckV X2 hx hZ hown hml (z := own_m66) (y := own_m63) (wd hw 359 rfl) (wd hw 360 rfl) (mvT hZ (wd hw 361 rfl)) (wd hw 416 rfl) (wd hw 417 rfl) (wd hw 418 rfl) (wd hw 419 rfl) (wd hw 408 rfl) (wd hw 390 rfl) (wd hw 420 rfl) (by decide) LX0 (rm_gt_20 l Z a0 hw [] ch v19 v20 hB n0 O0 LX1 LX2) (by decide) (by decide) (W := 0) (Nat.le_of_eq rfl) (argsL := [(.int (0 : Int32))]) (rest := []) (lenOf pd__I_Ljava_lang_Object_ rfl) rfl rfl (hb hby at_620) rfl eq2 (by decide) (by decide) (c' := 79) (s' := 1650) rfl rfl (q := 625) rfl fun _ T3 L3 X3 hQ3 => ?_
  obtain ⟨rfl, Nq3, eq3⟩ := hQ3
  have N3 := Fr.app N2 Nq3
  show own_V p e below s _ _ _ T3 (mkF m 625 _ [(.ref v19)])
  obtain ⟨T4, X4, e4, st4⟩ := castY X3 hx hZ hown (wd hw 27 rfl) eq3 (Ins.self E_v19) (g := (mkF m 625 #[iv i0, iv i1, iv i2, iv i3, iv i4, iv i5, rv ka, rv ra, rv kd, iv tv, iv rq, iv wh, iv hd, iv (2 : Int32), rv r1, rv r2, rv s16, rv s17, rv s18, rv v19, rv v20, rv v21, rv al, rv p2, rv q_, iv (1 : Int32), rv ch] [(.ref v19)])) rfl rfl (hb hby at_625)
  refine own_spV (q := 628) (S' := [(.ref v19)]) st4 ?_
  clear st4
  refine own_spV (q := 630) (S' := [(.ref v19), (.ref v19)]) (fun _ k_ => XS.aload X4.here hx rfl (hb hby at_628) rfl rfl  k_) ?_
  refine own_kcV own_ckV X4 hx hZ hown hml (y := own_m41) (wd hw 200 rfl) (wd hw 201 rfl) (wd hw 203 rfl) (wd hw 202 rfl) (wd hw 29 rfl) (wd hw 204 rfl) (by decide) E_v19 (rm_eqs l Z a0 hw [] v19 hB n0 O0) (by decide) (by decide) (W := 0) (Nat.le_of_eq rfl) (argsL := [(.ref v19)]) (rest := []) (lenOf pd__Ljava_lang_Object__Z rfl) rfl rfl (hb hby at_630) rfl e4 (by decide) (by decide) (c' := 79) (s' := 1650) rfl rfl (q := 633) rfl fun _ T5 L5 X5 hQ5 => ?_
  obtain ⟨rfl, Nq5, eq5⟩ := hQ5
  have N5 := Fr.app N3 Nq5
  show own_V p e below s _ _ _ T5 (mkF m 633 _ [(.int (1 : Int32))])
  refine own_spV (q := 635) (S' := []) (fun _ k_ => XS.istore X5.here hx rfl (hb hby at_633) rfl (l' := #[iv i0, iv i1, iv i2, iv i3, iv i4, iv i5, rv ka, rv ra, rv kd, iv tv, iv rq, iv wh, iv hd, iv (2 : Int32), rv r1, rv r2, rv s16, rv s17, rv s18, rv v19, rv v20, rv v21, rv al, rv p2, rv q_, iv (1 : Int32), rv ch]) rfl k_) ?_
  refine own_spV (q := 637) (S' := [(.int (1 : Int32))]) (fun _ k_ => XS.iload X5.here hx rfl (hb hby at_635) rfl  k_) ?_
  refine own_spV (q := 640) (S' := []) (fun _ k_ => XS.ifNo X5.here hx rfl (hb hby at_637) rfl ((if0 _ _).trans (feq (by decide : ¬ ((1 : Int32) = (0 : Int32)))).1) k_) ?_
  refine own_spV (q := 642) (S' := [(.int (2 : Int32))]) (fun _ k_ => XS.iload X5.here hx rfl (hb hby at_640) rfl  k_) ?_
  refine own_spV (q := 643) (S' := [(.int (2 : Int32)), (.int (2 : Int32))]) (fun _ k_ => XS.iconst X5.here hx rfl (hb hby at_642) k_) ?_
  refine own_spV (q := 646) (S' := []) (fun _ k_ => XS.icmpNo X5.here hx rfl (hb hby at_643) rfl (flt (by decide : ¬ ((2 : Int32) < (2 : Int32)))).1 k_) ?_
  refine own_spV (q := 648) (S' := [(.ref ch)]) (fun _ k_ => XS.aload X5.here hx rfl (hb hby at_646) rfl rfl  k_) ?_
  refine own_spV (q := 649) (S' := [(.int (1 : Int32)), (.ref ch)]) (fun _ k_ => XS.iconst X5.here hx rfl (hb hby at_648) k_) ?_
  refine own_kcF own_ckV X5 hx hZ hown hml (z := own_m66) (y := own_m63) (wd hw 359 rfl) (wd hw 360 rfl) (mvT hZ (wd hw 361 rfl)) (wd hw 416 rfl) (wd hw 417 rfl) (wd hw 418 rfl) (wd hw 419 rfl) (wd hw 408 rfl) (wd hw 390 rfl) (wd hw 420 rfl) (by decide) LX0 (rm_gt_21 l Z a0 hw [] ch v19 v20 em hB n0 O0 LX1 LX2 hye SEm) (by decide) (by decide) (W := 0) (Nat.le_of_eq rfl) (argsL := [(.int (1 : Int32))]) (rest := []) (lenOf pd__I_Ljava_lang_Object_ rfl) rfl rfl (hb hby at_649) rfl eq5 (by decide) (by decide) (c' := 79) (s' := 1650) rfl rfl (q := 654) rfl fun _ T6 L6 X6 hQ6 => ?_
  obtain ⟨rfl, Nq6, eq6⟩ := hQ6
  have N6 := Fr.app N5 Nq6
  show own_V p e below s _ _ _ T6 (mkF m 654 _ [(.ref v20)])
  obtain ⟨T7, X7, e7, st7⟩ := castY X6 hx hZ hown (wd hw 27 rfl) eq6 (Ins.self E_v20) (g := (mkF m 654 #[iv i0, iv i1, iv i2, iv i3, iv i4, iv i5, rv ka, rv ra, rv kd, iv tv, iv rq, iv wh, iv hd, iv (2 : Int32), rv r1, rv r2, rv s16, rv s17, rv s18, rv v19, rv v20, rv v21, rv al, rv p2, rv q_, iv (1 : Int32), rv ch] [(.ref v20)])) rfl rfl (hb hby at_654)
  refine own_spV (q := 657) (S' := [(.ref v20)]) st7 ?_
  clear st7
  refine own_spV (q := 659) (S' := [(.ref v20), (.ref v20)]) (fun _ k_ => XS.aload X7.here hx rfl (hb hby at_657) rfl rfl  k_) ?_
  refine own_kcV own_ckV X7 hx hZ hown hml (y := own_m41) (wd hw 200 rfl) (wd hw 201 rfl) (wd hw 203 rfl) (wd hw 202 rfl) (wd hw 29 rfl) (wd hw 204 rfl) (by decide) E_v20 (rm_eqs l Z a0 hw [] v20 hB n0 O0) (by decide) (by decide) (W := 0) (Nat.le_of_eq rfl) (argsL := [(.ref v20)]) (rest := []) (lenOf pd__Ljava_lang_Object__Z rfl) rfl rfl (hb hby at_659) rfl e7 (by decide) (by decide) (c' := 79) (s' := 1650) rfl rfl (q := 662) rfl fun _ T8 L8 X8 hQ8 => ?_
  obtain ⟨rfl, Nq8, eq8⟩ := hQ8
  have N8 := Fr.app N6 Nq8
  show own_V p e below s _ _ _ T8 (mkF m 662 _ [(.int (1 : Int32))])
  refine own_spV (q := 664) (S' := []) (fun _ k_ => XS.istore X8.here hx rfl (hb hby at_662) rfl (l' := #[iv i0, iv i1, iv i2, iv i3, iv i4, iv i5, rv ka, rv ra, rv kd, iv tv, iv rq, iv wh, iv hd, iv (2 : Int32), rv r1, rv r2, rv s16, rv s17, rv s18, rv v19, rv v20, rv v21, rv al, rv p2, rv q_, iv (1 : Int32), rv ch]) rfl k_) ?_
  refine own_spV (q := 666) (S' := [(.int (1 : Int32))]) (fun _ k_ => XS.iload X8.here hx rfl (hb hby at_664) rfl  k_) ?_
  refine own_spV (q := 669) (S' := []) (fun _ k_ => XS.ifNo X8.here hx rfl (hb hby at_666) rfl ((if0 _ _).trans (feq (by decide : ¬ ((1 : Int32) = (0 : Int32)))).1) k_) ?_
  refine own_spV (q := 671) (S' := [(.int (2 : Int32))]) (fun _ k_ => XS.iload X8.here hx rfl (hb hby at_669) rfl  k_) ?_
  refine own_spV (q := 672) (S' := [(.int (3 : Int32)), (.int (2 : Int32))]) (fun _ k_ => XS.iconst X8.here hx rfl (hb hby at_671) k_) ?_
  refine own_spV (q := 693) (S' := []) (fun _ k_ => XS.icmpYes X8.here hx rfl (pc0 := 672) (pc' := 693) rfl (hb hby at_672) rfl (tlt (by decide : (2 : Int32) < (3 : Int32))).1 (by decide) (by decide) k_) ?_
  refine own_spV (q := 695) (S' := [(.int (1 : Int32))]) (fun _ k_ => XS.iload X8.here hx rfl (hb hby at_693) rfl  k_) ?_
  exact own_retNV X8 hS0 (by rw [eq8]; exact hk0) hx (t := .boolean) hret (by simp) hlk (hb hby at_695) (by decide) (by decide) ⟨rfl, N8⟩
theorem seg_H3 (h0 : Heap) (hB : Heap) (n0 : Nat) (i0 : Int32) (i1 : Int32) (i2 : Int32) (i3 : Int32) (i4 : Int32) (i5 : Int32) (ka : Addr) (ra : Addr) (kd : Addr) (tv : Int32) (rq : Int32) (wh : Int32) (hd : Int32) (nc : Int32) (r1 : Addr) (r2 : Addr) (s16 : Addr) (s17 : Addr) (s18 : Addr) (v19 : Addr) (v20 : Addr) (v21 : Addr) (al : Addr) (w_TEXT : Addr) (w_OPTION : Addr) (w_METHOD : Addr) (w_TARGET : Addr) (w_BODY : Addr) (w_TIME : Addr) (w_NONCE : Addr) (dA : Addr) (clD : Cell) (kO : ClassId) (mir : Addr) (em : Addr) (el : Addr) (oe : Addr) (cz : Int32) (p2 : Addr) (q_ : Addr) (ch : Addr) (uu : Addr)
    (X0 : Stand p l e room_1 (s.setVm vm0) m args below meth c T0 locs 79 1650) (hx : p.tables.exec = Jvm.exec) (hZs : Z.Warmed39 s.vm) (hZ : Z.Warmed39 (s.setVm vm0).vm) (hS0 : s.Since vm0 k0) (hk0 : k0 ≤ hB.size) (hw : own_HW a0 Z) (hby : c.code = code) (hml : c.maxLocals = 27) (howns : s.vm.findClass ks3 = some m.cls) (hown : (s.setVm vm0).vm.findClass ks3 = some m.cls) (hnm : meth.name = "law") (hret : meth.sig.returnType = some .boolean) (hlk : meth.locks = false) (e0 : T0.heap = hB) (N0 : Fr n0 locs) (O0 : Old Z n0 hB) (HBs : own_Bs Z w_TEXT w_OPTION w_METHOD w_TARGET w_BODY w_TIME w_NONCE dA clD kO mir em el oe cz) (E_v19 : Exa Z hB v19 ks10) (E_v20 : Exa Z hB v20 ks10) (E_v21 : Exa Z hB v21 ks10) (Fq : Fld Z hB q_ ks0 "choices" ks16 (.ref ch)) (Eq : Exa Z hB q_ ks0) (LX0 : Exa Z hB ch ks11) (LX1 : Fld Z hB ch ks11 "elements" ks8 (.ref uu)) (LX2 : Arv Z hB uu kO (.object ks2) (3 : Int32) [(.ref v19), (.ref v20), (.ref v21)] .null) :
    own_V p e below s room_1.cells room_1.slots (fun v h L _ => own_L n0 v h L) T0 (mkF m 575 #[iv i0, iv i1, iv i2, iv i3, iv i4, iv i5, rv ka, rv ra, rv kd, iv tv, iv rq, iv wh, iv hd, iv (3 : Int32), rv r1, rv r2, rv s16, rv s17, rv s18, rv v19, rv v20, rv v21, rv al, rv p2, rv q_, iv (1 : Int32), .unset] []) := by
  obtain ⟨S_TEXT, S_OPTION, X_OPTION, S_METHOD, X_METHOD, S_TARGET, X_TARGET, S_BODY, X_BODY, S_TIME, X_TIME, S_NONCE, X_NONCE, SDe, AD, LD, OV, FC, MIR, SEm, X_em, S_el, IL_el, S_oe, X_oe, F_oe, SC, hcz⟩ := id HBs
  refine own_stV (T' := T0) (g' := (mkF m 577 #[iv i0, iv i1, iv i2, iv i3, iv i4, iv i5, rv ka, rv ra, rv kd, iv tv, iv rq, iv wh, iv hd, iv (3 : Int32), rv r1, rv r2, rv s16, rv s17, rv s18, rv v19, rv v20, rv v21, rv al, rv p2, rv q_, iv (1 : Int32), .unset] [(.ref q_)])) (fun _ k_ => XS.aload X0.here hx rfl (hb hby at_575) rfl rfl  k_) ?_
  refine own_kcV own_ckV X0 hx hZ hown hml (y := own_m57) (wd hw 236 rfl) (wd hw 237 rfl) (wd hw 239 rfl) (wd hw 238 rfl) (wd hw 97 rfl) (wd hw 240 rfl) (by decide) Eq (rm_get_choices l Z a0 hw [] q_ ch hB n0 O0 Fq) (by decide) (by decide) (W := 0) (Nat.le_of_eq rfl) (argsL := []) (rest := []) (lenOf pd___Ljava_util_List_ rfl) rfl rfl (hb hby at_577) rfl e0 (by decide) (by decide) (c' := 79) (s' := 1650) rfl rfl (q := 580) rfl fun _ T1 L1 X1 hQ1 => ?_
  obtain ⟨rfl, Nq1, eq1⟩ := hQ1
  have N1 := Fr.app N0 Nq1
  show own_V p e below s _ _ _ T1 (mkF m 580 _ [(.ref ch)])
  refine own_stV (T' := T1) (g' := (mkF m 582 #[iv i0, iv i1, iv i2, iv i3, iv i4, iv i5, rv ka, rv ra, rv kd, iv tv, iv rq, iv wh, iv hd, iv (3 : Int32), rv r1, rv r2, rv s16, rv s17, rv s18, rv v19, rv v20, rv v21, rv al, rv p2, rv q_, iv (1 : Int32), rv ch] [])) (fun _ k_ => XS.astore X1.here hx rfl (hb hby at_580) rfl rfl (l' := #[iv i0, iv i1, iv i2, iv i3, iv i4, iv i5, rv ka, rv ra, rv kd, iv tv, iv rq, iv wh, iv hd, iv (3 : Int32), rv r1, rv r2, rv s16, rv s17, rv s18, rv v19, rv v20, rv v21, rv al, rv p2, rv q_, iv (1 : Int32), rv ch]) rfl k_) ?_
  refine own_spV (q := 584) (S' := [(.int (1 : Int32))]) (fun _ k_ => XS.iload X1.here hx rfl (hb hby at_582) rfl  k_) ?_
  refine own_spV (q := 587) (S' := []) (fun _ k_ => XS.ifNo X1.here hx rfl (hb hby at_584) rfl ((if0 _ _).trans (feq (by decide : ¬ ((1 : Int32) = (0 : Int32)))).1) k_) ?_
  refine own_spV (q := 589) (S' := [(.ref ch)]) (fun _ k_ => XS.aload X1.here hx rfl (hb hby at_587) rfl rfl  k_) ?_
  refine own_kcF own_ckV X1 hx hZ hown hml (z := own_m65) (y := own_m61) (wd hw 241 rfl) (wd hw 242 rfl) (mvT hZ (wd hw 243 rfl)) (wd hw 244 rfl) (wd hw 245 rfl) (wd hw 246 rfl) (wd hw 247 rfl) (wd hw 150 rfl) (wd hw 158 rfl) (wd hw 248 rfl) (by decide) LX0 (rm_sz_3 l Z a0 hw [] ch uu kO v19 v20 v21 hB n0 O0 LX1 LX2) (by decide) (by decide) (W := 0) (Nat.le_of_eq rfl) (argsL := []) (rest := []) (lenOf pd___I rfl) rfl rfl (hb hby at_589) rfl eq1 (by decide) (by decide) (c' := 79) (s' := 1650) rfl rfl (q := 594) rfl fun _ T2 L2 X2 hQ2 => ?_
  obtain ⟨rfl, Nq2, eq2⟩ := hQ2
  have N2 := Fr.app N1 Nq2
  show own_V p e below s _ _ _ T2 (mkF m 594 _ [(.int (3 : Int32))])
  refine own_spV (q := 596) (S' := [(.int (3 : Int32)), (.int (3 : Int32))]) (fun _ k_ => XS.iload X2.here hx rfl (hb hby at_594) rfl  k_) ?_
  refine own_spV (q := 599) (S' := []) (fun _ k_ => XS.icmpNo X2.here hx rfl (hb hby at_596) rfl (teq (rfl : (3 : Int32) = (3 : Int32))).2 k_) ?_
  refine own_spV (q := 600) (S' := [(.int (1 : Int32))]) (fun _ k_ => XS.iconst X2.here hx rfl (hb hby at_599) k_) ?_
  refine own_spV (q := 604) (S' := [(.int (1 : Int32))]) (fun _ k_ => XS.goto X2.here hx rfl (pc0 := 600) (pc' := 604) rfl (hb hby at_600) (by decide) (by decide) k_) ?_
  refine own_spV (q := 606) (S' := []) (fun _ k_ => XS.istore X2.here hx rfl (hb hby at_604) rfl (l' := #[iv i0, iv i1, iv i2, iv i3, iv i4, iv i5, rv ka, rv ra, rv kd, iv tv, iv rq, iv wh, iv hd, iv (3 : Int32), rv r1, rv r2, rv s16, rv s17, rv s18, rv v19, rv v20, rv v21, rv al, rv p2, rv q_, iv (1 : Int32), rv ch]) rfl k_) ?_
  refine own_spV (q := 608) (S' := [(.int (1 : Int32))]) (fun _ k_ => XS.iload X2.here hx rfl (hb hby at_606) rfl  k_) ?_
  refine own_spV (q := 611) (S' := []) (fun _ k_ => XS.ifNo X2.here hx rfl (hb hby at_608) rfl ((if0 _ _).trans (feq (by decide : ¬ ((1 : Int32) = (0 : Int32)))).1) k_) ?_
  refine own_spV (q := 613) (S' := [(.int (3 : Int32))]) (fun _ k_ => XS.iload X2.here hx rfl (hb hby at_611) rfl  k_) ?_
  refine own_spV (q := 614) (S' := [(.int (1 : Int32)), (.int (3 : Int32))]) (fun _ k_ => XS.iconst X2.here hx rfl (hb hby at_613) k_) ?_
  refine own_spV (q := 617) (S' := []) (fun _ k_ => XS.icmpNo X2.here hx rfl (hb hby at_614) rfl (flt (by decide : ¬ ((3 : Int32) < (1 : Int32)))).1 k_) ?_
  refine own_spV (q := 619) (S' := [(.ref ch)]) (fun _ k_ => XS.aload X2.here hx rfl (hb hby at_617) rfl rfl  k_) ?_
  refine own_spV (q := 620) (S' := [(.int (0 : Int32)), (.ref ch)]) (fun _ k_ => XS.iconst X2.here hx rfl (hb hby at_619) k_) ?_
  refine own_kcF own_ckV X2 hx hZ hown hml (z := own_m66) (y := own_m64) (wd hw 359 rfl) (wd hw 360 rfl) (mvT hZ (wd hw 361 rfl)) (wd hw 362 rfl) (wd hw 363 rfl) (wd hw 364 rfl) (wd hw 365 rfl) (wd hw 150 rfl) (wd hw 158 rfl) (wd hw 366 rfl) (by decide) LX0 (rm_gt_30 l Z a0 hw [] ch uu kO v19 v20 v21 hB n0 O0 LX1 LX2) (by decide) (by decide) (W := 0) (Nat.le_of_eq rfl) (argsL := [(.int (0 : Int32))]) (rest := []) (lenOf pd__I_Ljava_lang_Object_ rfl) rfl rfl (hb hby at_620) rfl eq2 (by decide) (by decide) (c' := 79) (s' := 1650) rfl rfl (q := 625) rfl fun _ T3 L3 X3 hQ3 => ?_
  obtain ⟨rfl, Nq3, eq3⟩ := hQ3
  have N3 := Fr.app N2 Nq3
  show own_V p e below s _ _ _ T3 (mkF m 625 _ [(.ref v19)])
  obtain ⟨T4, X4, e4, st4⟩ := castY X3 hx hZ hown (wd hw 27 rfl) eq3 (Ins.self E_v19) (g := (mkF m 625 #[iv i0, iv i1, iv i2, iv i3, iv i4, iv i5, rv ka, rv ra, rv kd, iv tv, iv rq, iv wh, iv hd, iv (3 : Int32), rv r1, rv r2, rv s16, rv s17, rv s18, rv v19, rv v20, rv v21, rv al, rv p2, rv q_, iv (1 : Int32), rv ch] [(.ref v19)])) rfl rfl (hb hby at_625)
  refine own_spV (q := 628) (S' := [(.ref v19)]) st4 ?_
  clear st4
  refine own_spV (q := 630) (S' := [(.ref v19), (.ref v19)]) (fun _ k_ => XS.aload X4.here hx rfl (hb hby at_628) rfl rfl  k_) ?_
  refine own_kcV own_ckV X4 hx hZ hown hml (y := own_m41) (wd hw 200 rfl) (wd hw 201 rfl) (wd hw 203 rfl) (wd hw 202 rfl) (wd hw 29 rfl) (wd hw 204 rfl) (by decide) E_v19 (rm_eqs l Z a0 hw [] v19 hB n0 O0) (by decide) (by decide) (W := 0) (Nat.le_of_eq rfl) (argsL := [(.ref v19)]) (rest := []) (lenOf pd__Ljava_lang_Object__Z rfl) rfl rfl (hb hby at_630) rfl e4 (by decide) (by decide) (c' := 79) (s' := 1650) rfl rfl (q := 633) rfl fun _ T5 L5 X5 hQ5 => ?_
  obtain ⟨rfl, Nq5, eq5⟩ := hQ5
  have N5 := Fr.app N3 Nq5
  show own_V p e below s _ _ _ T5 (mkF m 633 _ [(.int (1 : Int32))])
  refine own_spV (q := 635) (S' := []) (fun _ k_ => XS.istore X5.here hx rfl (hb hby at_633) rfl (l' := #[iv i0, iv i1, iv i2, iv i3, iv i4, iv i5, rv ka, rv ra, rv kd, iv tv, iv rq, iv wh, iv hd, iv (3 : Int32), rv r1, rv r2, rv s16, rv s17, rv s18, rv v19, rv v20, rv v21, rv al, rv p2, rv q_, iv (1 : Int32), rv ch]) rfl k_) ?_
  refine own_spV (q := 637) (S' := [(.int (1 : Int32))]) (fun _ k_ => XS.iload X5.here hx rfl (hb hby at_635) rfl  k_) ?_
  refine own_spV (q := 640) (S' := []) (fun _ k_ => XS.ifNo X5.here hx rfl (hb hby at_637) rfl ((if0 _ _).trans (feq (by decide : ¬ ((1 : Int32) = (0 : Int32)))).1) k_) ?_
  refine own_spV (q := 642) (S' := [(.int (3 : Int32))]) (fun _ k_ => XS.iload X5.here hx rfl (hb hby at_640) rfl  k_) ?_
  refine own_spV (q := 643) (S' := [(.int (2 : Int32)), (.int (3 : Int32))]) (fun _ k_ => XS.iconst X5.here hx rfl (hb hby at_642) k_) ?_
  refine own_spV (q := 646) (S' := []) (fun _ k_ => XS.icmpNo X5.here hx rfl (hb hby at_643) rfl (flt (by decide : ¬ ((3 : Int32) < (2 : Int32)))).1 k_) ?_
  refine own_spV (q := 648) (S' := [(.ref ch)]) (fun _ k_ => XS.aload X5.here hx rfl (hb hby at_646) rfl rfl  k_) ?_
  refine own_spV (q := 649) (S' := [(.int (1 : Int32)), (.ref ch)]) (fun _ k_ => XS.iconst X5.here hx rfl (hb hby at_648) k_) ?_
  refine own_kcF own_ckV X5 hx hZ hown hml (z := own_m66) (y := own_m64) (wd hw 359 rfl) (wd hw 360 rfl) (mvT hZ (wd hw 361 rfl)) (wd hw 362 rfl) (wd hw 363 rfl) (wd hw 364 rfl) (wd hw 365 rfl) (wd hw 150 rfl) (wd hw 158 rfl) (wd hw 366 rfl) (by decide) LX0 (rm_gt_31 l Z a0 hw [] ch uu kO v19 v20 v21 hB n0 O0 LX1 LX2) (by decide) (by decide) (W := 0) (Nat.le_of_eq rfl) (argsL := [(.int (1 : Int32))]) (rest := []) (lenOf pd__I_Ljava_lang_Object_ rfl) rfl rfl (hb hby at_649) rfl eq5 (by decide) (by decide) (c' := 79) (s' := 1650) rfl rfl (q := 654) rfl fun _ T6 L6 X6 hQ6 => ?_
  obtain ⟨rfl, Nq6, eq6⟩ := hQ6
  have N6 := Fr.app N5 Nq6
  show own_V p e below s _ _ _ T6 (mkF m 654 _ [(.ref v20)])
  obtain ⟨T7, X7, e7, st7⟩ := castY X6 hx hZ hown (wd hw 27 rfl) eq6 (Ins.self E_v20) (g := (mkF m 654 #[iv i0, iv i1, iv i2, iv i3, iv i4, iv i5, rv ka, rv ra, rv kd, iv tv, iv rq, iv wh, iv hd, iv (3 : Int32), rv r1, rv r2, rv s16, rv s17, rv s18, rv v19, rv v20, rv v21, rv al, rv p2, rv q_, iv (1 : Int32), rv ch] [(.ref v20)])) rfl rfl (hb hby at_654)
  refine own_spV (q := 657) (S' := [(.ref v20)]) st7 ?_
  clear st7
  refine own_spV (q := 659) (S' := [(.ref v20), (.ref v20)]) (fun _ k_ => XS.aload X7.here hx rfl (hb hby at_657) rfl rfl  k_) ?_
  refine own_kcV own_ckV X7 hx hZ hown hml (y := own_m41) (wd hw 200 rfl) (wd hw 201 rfl) (wd hw 203 rfl) (wd hw 202 rfl) (wd hw 29 rfl) (wd hw 204 rfl) (by decide) E_v20 (rm_eqs l Z a0 hw [] v20 hB n0 O0) (by decide) (by decide) (W := 0) (Nat.le_of_eq rfl) (argsL := [(.ref v20)]) (rest := []) (lenOf pd__Ljava_lang_Object__Z rfl) rfl rfl (hb hby at_659) rfl e7 (by decide) (by decide) (c' := 79) (s' := 1650) rfl rfl (q := 662) rfl fun _ T8 L8 X8 hQ8 => ?_
  obtain ⟨rfl, Nq8, eq8⟩ := hQ8
  have N8 := Fr.app N6 Nq8
  show own_V p e below s _ _ _ T8 (mkF m 662 _ [(.int (1 : Int32))])
  refine own_spV (q := 664) (S' := []) (fun _ k_ => XS.istore X8.here hx rfl (hb hby at_662) rfl (l' := #[iv i0, iv i1, iv i2, iv i3, iv i4, iv i5, rv ka, rv ra, rv kd, iv tv, iv rq, iv wh, iv hd, iv (3 : Int32), rv r1, rv r2, rv s16, rv s17, rv s18, rv v19, rv v20, rv v21, rv al, rv p2, rv q_, iv (1 : Int32), rv ch]) rfl k_) ?_
  refine own_spV (q := 666) (S' := [(.int (1 : Int32))]) (fun _ k_ => XS.iload X8.here hx rfl (hb hby at_664) rfl  k_) ?_
  refine own_spV (q := 669) (S' := []) (fun _ k_ => XS.ifNo X8.here hx rfl (hb hby at_666) rfl ((if0 _ _).trans (feq (by decide : ¬ ((1 : Int32) = (0 : Int32)))).1) k_) ?_
  refine own_spV (q := 671) (S' := [(.int (3 : Int32))]) (fun _ k_ => XS.iload X8.here hx rfl (hb hby at_669) rfl  k_) ?_
  refine own_spV (q := 672) (S' := [(.int (3 : Int32)), (.int (3 : Int32))]) (fun _ k_ => XS.iconst X8.here hx rfl (hb hby at_671) k_) ?_
  refine own_spV (q := 675) (S' := []) (fun _ k_ => XS.icmpNo X8.here hx rfl (hb hby at_672) rfl (flt (by decide : ¬ ((3 : Int32) < (3 : Int32)))).1 k_) ?_
  refine own_spV (q := 677) (S' := [(.ref ch)]) (fun _ k_ => XS.aload X8.here hx rfl (hb hby at_675) rfl rfl  k_) ?_
  refine own_spV (q := 678) (S' := [(.int (2 : Int32)), (.ref ch)]) (fun _ k_ => XS.iconst X8.here hx rfl (hb hby at_677) k_) ?_
  refine own_kcF own_ckV X8 hx hZ hown hml (z := own_m66) (y := own_m64) (wd hw 359 rfl) (wd hw 360 rfl) (mvT hZ (wd hw 361 rfl)) (wd hw 362 rfl) (wd hw 363 rfl) (wd hw 364 rfl) (wd hw 365 rfl) (wd hw 150 rfl) (wd hw 158 rfl) (wd hw 366 rfl) (by decide) LX0 (rm_gt_32 l Z a0 hw [] ch uu kO v19 v20 v21 hB n0 O0 LX1 LX2) (by decide) (by decide) (W := 0) (Nat.le_of_eq rfl) (argsL := [(.int (2 : Int32))]) (rest := []) (lenOf pd__I_Ljava_lang_Object_ rfl) rfl rfl (hb hby at_678) rfl eq8 (by decide) (by decide) (c' := 79) (s' := 1650) rfl rfl (q := 683) rfl fun _ T9 L9 X9 hQ9 => ?_
  obtain ⟨rfl, Nq9, eq9⟩ := hQ9
  have N9 := Fr.app N8 Nq9
  show own_V p e below s _ _ _ T9 (mkF m 683 _ [(.ref v21)])
  obtain ⟨T10, X10, e10, st10⟩ := castY X9 hx hZ hown (wd hw 27 rfl) eq9 (Ins.self E_v21) (g := (mkF m 683 #[iv i0, iv i1, iv i2, iv i3, iv i4, iv i5, rv ka, rv ra, rv kd, iv tv, iv rq, iv wh, iv hd, iv (3 : Int32), rv r1, rv r2, rv s16, rv s17, rv s18, rv v19, rv v20, rv v21, rv al, rv p2, rv q_, iv (1 : Int32), rv ch] [(.ref v21)])) rfl rfl (hb hby at_683)
  refine own_spV (q := 686) (S' := [(.ref v21)]) st10 ?_
  clear st10
  refine own_spV (q := 688) (S' := [(.ref v21), (.ref v21)]) (fun _ k_ => XS.aload X10.here hx rfl (hb hby at_686) rfl rfl  k_) ?_
  refine own_kcV own_ckV X10 hx hZ hown hml (y := own_m41) (wd hw 200 rfl) (wd hw 201 rfl) (wd hw 203 rfl) (wd hw 202 rfl) (wd hw 29 rfl) (wd hw 204 rfl) (by decide) E_v21 (rm_eqs l Z a0 hw [] v21 hB n0 O0) (by decide) (by decide) (W := 0) (Nat.le_of_eq rfl) (argsL := [(.ref v21)]) (rest := []) (lenOf pd__Ljava_lang_Object__Z rfl) rfl rfl (hb hby at_688) rfl e10 (by decide) (by decide) (c' := 79) (s' := 1650) rfl rfl (q := 691) rfl fun _ T11 L11 X11 hQ11 => ?_
  obtain ⟨rfl, Nq11, eq11⟩ := hQ11
  have N11 := Fr.app N9 Nq11
  show own_V p e below s _ _ _ T11 (mkF m 691 _ [(.int (1 : Int32))])
  refine own_spV (q := 693) (S' := []) (fun _ k_ => XS.istore X11.here hx rfl (hb hby at_691) rfl (l' := #[iv i0, iv i1, iv i2, iv i3, iv i4, iv i5, rv ka, rv ra, rv kd, iv tv, iv rq, iv wh, iv hd, iv (3 : Int32), rv r1, rv r2, rv s16, rv s17, rv s18, rv v19, rv v20, rv v21, rv al, rv p2, rv q_, iv (1 : Int32), rv ch]) rfl k_) ?_
  refine own_spV (q := 695) (S' := [(.int (1 : Int32))]) (fun _ k_ => XS.iload X11.here hx rfl (hb hby at_693) rfl  k_) ?_
  exact own_retNV X11 hS0 (by rw [eq11]; exact hk0) hx (t := .boolean) hret (by simp) hlk (hb hby at_695) (by decide) (by decide) ⟨rfl, N11⟩
theorem pd__Lcom_example_countersign_countersign_Parameter_Role__Lcom_example_countersign_countersign_Parameter_ : parseMethodDescriptor "(Lcom/example/countersign/countersign/Parameter$Role;)Lcom/example/countersign/countersign/Parameter;" = some ⟨[(.object "com/example/countersign/countersign/Parameter$Role")], some (.object "com/example/countersign/countersign/Parameter")⟩ := by decide +kernel
theorem pd___Lcom_example_countersign_countersign_Parameter_Role_ : parseMethodDescriptor "()Lcom/example/countersign/countersign/Parameter$Role;" = some ⟨[], some (.object "com/example/countersign/countersign/Parameter$Role")⟩ := by decide +kernel
theorem pd___Ljava_lang_String_ : parseMethodDescriptor "()Ljava/lang/String;" = some ⟨[], some (.object "java/lang/String")⟩ := by decide +kernel
theorem pd___Lcom_example_countersign_countersign_Parameter_Kind_ : parseMethodDescriptor "()Lcom/example/countersign/countersign/Parameter$Kind;" = some ⟨[], some (.object "com/example/countersign/countersign/Parameter$Kind")⟩ := by decide +kernel
theorem seg_G (h0 : Heap) (hB : Heap) (n0 : Nat) (i0 : Int32) (i1 : Int32) (i2 : Int32) (i3 : Int32) (i4 : Int32) (i5 : Int32) (ka : Addr) (ra : Addr) (kd : Addr) (tv : Int32) (rq : Int32) (wh : Int32) (hd : Int32) (nc : Int32) (r1 : Addr) (r2 : Addr) (s16 : Addr) (s17 : Addr) (s18 : Addr) (v19 : Addr) (v20 : Addr) (v21 : Addr) (al : Addr) (w_TEXT : Addr) (w_OPTION : Addr) (w_METHOD : Addr) (w_TARGET : Addr) (w_BODY : Addr) (w_TIME : Addr) (w_NONCE : Addr) (dA : Addr) (clD : Cell) (kO : ClassId) (mir : Addr) (em : Addr) (el : Addr) (oe : Addr) (cz : Int32) (ho : Addr) (hv : Value) (p_ : Addr) (ch : Addr) (ne : Int32) (LP : Heap → Prop)
    (X0 : Stand p l e room_1 (s.setVm vm0) m args below meth c T0 locs 67 1330) (hx : p.tables.exec = Jvm.exec) (hZs : Z.Warmed39 s.vm) (hZ : Z.Warmed39 (s.setVm vm0).vm) (hS0 : s.Since vm0 k0) (hk0 : k0 ≤ hB.size) (hw : own_HW a0 Z) (hby : c.code = code) (hml : c.maxLocals = 27) (howns : s.vm.findClass ks3 = some m.cls) (hown : (s.setVm vm0).vm.findClass ks3 = some m.cls) (hnm : meth.name = "law") (hret : meth.sig.returnType = some .boolean) (hlk : meth.locks = false) (e0 : T0.heap = hB) (N0 : Fr n0 locs) (O0 : Old Z n0 hB) (HBs : own_Bs Z w_TEXT w_OPTION w_METHOD w_TARGET w_BODY w_TIME w_NONCE dA clD kO mir em el oe cz) (E_s16 : Exa Z hB s16 ks10) (E_s17 : Exa Z hB s17 ks10) (X_r1 : Exa Z Z.heap r1 ks1) (X_r2 : Exa Z Z.heap r2 ks1) (hrq : own_B rq) (hwn : own_B wh) (hhd : own_B hd) (hT1 : ¬ wh = (0 : Int32) → kd = w_TEXT) (hT4 : ¬ hd = (0 : Int32) → kd = w_TEXT) (hkt : ne = (0 : Int32) → kd = w_TEXT) (E_ho : Exa Z hB ho ks14) (F_ho : Fld Z hB ho ks14 "value" ks12 hv) (hhv : hv.isRef = true) (hpv : own_pv hv = hd) (hT2 : ¬ own_pv hv = (0 : Int32) → kd = w_TEXT) (PP0 : Exa Z hB p_ ks0) (PP1 : Fld Z hB p_ ks0 "name" ks13 (.ref s16)) (PP2 : Fld Z hB p_ ks0 "kind" ks5 (.ref kd)) (PP3 : Fld Z hB p_ ks0 ks23 "Z" (.int rq)) (PP4 : Fld Z hB p_ ks0 ks21 ks13 (.ref s17)) (PP5 : Fld Z hB p_ ks0 "choices" ks16 (.ref ch)) (PP6 : Fld Z hB p_ ks0 ks22 "Z" (.int wh)) (PP7 : Fld Z hB p_ ks0 "role" ks7 (.ref w_OPTION)) (PP8 : Fld Z hB p_ ks0 "header" ks15 (.ref ho)) (IL_ch : own_IL Z hB ch ne) (hLP : ∀ h h', Ext h h' → LP h → LP h') (hL : LP hB) (KH : ∀ (p2 q_ : Addr) (h : Heap) (vm : Vm) (k : Nat) (T : State) (locs : List Loc), Stand p l e room_1 (s.setVm vm) m args below meth c T locs 79 1650 → Z.Warmed39 (s.setVm vm).vm → (s.setVm vm).vm.findClass ks3 = some m.cls → s.Since vm k → k ≤ h.size → T.heap = h → Fr n0 locs → Old Z n0 h → Fld Z h q_ ks0 "choices" ks16 (.ref ch) → Exa Z h q_ ks0 → LP h → own_V p e below s room_1.cells room_1.slots (fun v h L _ => own_L n0 v h L) T (mkF m 575 #[iv i0, iv i1, iv i2, iv i3, iv i4, iv i5, rv ka, rv ra, rv kd, iv tv, iv rq, iv wh, iv hd, iv nc, rv r1, rv r2, rv s16, rv s17, rv s18, rv v19, rv v20, rv v21, rv al, rv p2, rv q_, iv (1 : Int32), .unset] [])) :
    own_V p e below s room_1.cells room_1.slots (fun v h L _ => own_L n0 v h L) T0 (mkF m 445 #[iv i0, iv i1, iv i2, iv i3, iv i4, iv i5, rv ka, rv ra, rv kd, iv tv, iv rq, iv wh, iv hd, iv nc, rv r1, rv r2, rv s16, rv s17, rv s18, rv v19, rv v20, rv v21, rv al, rv p_, .unset, .unset, .unset] []) := by
  obtain ⟨S_TEXT, S_OPTION, X_OPTION, S_METHOD, X_METHOD, S_TARGET, X_TARGET, S_BODY, X_BODY, S_TIME, X_TIME, S_NONCE, X_NONCE, SDe, AD, LD, OV, FC, MIR, SEm, X_em, S_el, IL_el, S_oe, X_oe, F_oe, SC, hcz⟩ := id HBs
  refine own_stV (T' := T0) (g' := (mkF m 447 #[iv i0, iv i1, iv i2, iv i3, iv i4, iv i5, rv ka, rv ra, rv kd, iv tv, iv rq, iv wh, iv hd, iv nc, rv r1, rv r2, rv s16, rv s17, rv s18, rv v19, rv v20, rv v21, rv al, rv p_, .unset, .unset, .unset] [(.ref p_)])) (fun _ k_ => XS.aload X0.here hx rfl (hb hby at_445) rfl rfl  k_) ?_
  refine own_spV (q := 449) (S' := [(.ref r1), (.ref p_)]) (fun _ k_ => XS.aload X0.here hx rfl (hb hby at_447) rfl rfl  k_) ?_
  obtain ⟨cq1, kq1, q1a, q1b, q1c⟩ := isOf hZ e0 PP0
  obtain ⟨_, T1, L1, X1, hS1, hW1, hQ1, st1⟩ := own_callVV (Z := Z) X0 hx (y := own_m47) (z := own_m47) hown (mvT hZ (wd hw 185 rfl)) (mvT hZ (wd hw 186 rfl)) (notFace_of_selects (args := #[]) (mvT hZ (wd hw 188 rfl))) (mvT hZ (wd hw 188 rfl)) (mvT hZ (wd hw 187 rfl)) (by decide) (own_backV (W := 0) (rm_as l Z a0 hw [] p_ s16 kd rq s17 wh w_OPTION ho hv r1 w_TEXT ch ne hB n0 O0 PP1 PP2 PP3 PP4 PP5 PP6 PP7 PP8 E_ho F_ho hhv hrq hwn hT1 hT2 S_TEXT IL_ch hkt) hZ (wd hw 189 rfl) (wd hw 97 rfl) (by decide) (by decide) (fun _ _ => trivial)) q1a q1c (g := (mkF m 449 #[iv i0, iv i1, iv i2, iv i3, iv i4, iv i5, rv ka, rv ra, rv kd, iv tv, iv rq, iv wh, iv hd, iv nc, rv r1, rv r2, rv s16, rv s17, rv s18, rv v19, rv v20, rv v21, rv al, rv p_, .unset, .unset, .unset] [(.ref r1), (.ref p_)])) rfl (by rw [hml]; rfl) (argsL := [(.ref r1)]) (rest := []) (lenOf pd__Lcom_example_countersign_countersign_Parameter_Role__Lcom_example_countersign_countersign_Parameter_ rfl) rfl (by show 2 * 0 + _ ≤ _; exact Nat.le_of_eq rfl) (hb hby at_449) rfl e0 (by decide) (by decide) (c' := 78) (s' := 1634) rfl rfl hS0 hk0
  clear q1a q1b q1c kq1 cq1
  obtain ⟨b1, rfl, Nq1, K1, fq1_0, fq1_1, fq1_2, fq1_3, fq1_4, fq1_5, fq1_6, fq1_7, fq1_8, xq1_fresh_b, wmq1⟩ := hQ1
  have N1 := Fr.app N0 Nq1
  have hZ1 : Z.Warmed39 (s.setVm T1.vm).vm := own_hZ hZs hS1
  have hown1 : (s.setVm T1.vm).vm.findClass ks3 = some m.cls := own_hown howns hS1
  refine own_spV (q := 452) (S' := [(.ref b1)]) st1 ?_
  clear st1
  refine own_stV (T' := T1) (g' := (mkF m 454 #[iv i0, iv i1, iv i2, iv i3, iv i4, iv i5, rv ka, rv ra, rv kd, iv tv, iv rq, iv wh, iv hd, iv nc, rv r1, rv r2, rv s16, rv s17, rv s18, rv v19, rv v20, rv v21, rv al, rv b1, .unset, .unset, .unset] [])) (fun _ k_ => XS.astore X1.here hx rfl (hb hby at_452) rfl rfl (l' := #[iv i0, iv i1, iv i2, iv i3, iv i4, iv i5, rv ka, rv ra, rv kd, iv tv, iv rq, iv wh, iv hd, iv nc, rv r1, rv r2, rv s16, rv s17, rv s18, rv v19, rv v20, rv v21, rv al, rv b1, .unset, .unset, .unset]) rfl k_) ?_
  refine own_spV (q := 456) (S' := [(.ref b1)]) (fun _ k_ => XS.aload X1.here hx rfl (hb hby at_454) rfl rfl  k_) ?_
  refine own_spV (q := 458) (S' := [(.ref r2), (.ref b1)]) (fun _ k_ => XS.aload X1.here hx rfl (hb hby at_456) rfl rfl  k_) ?_
  have f2 := E_ho.keep K1
  have f3 := F_ho.keep K1 nin0
  have f4 := own_ILk IL_ch K1
  have f5 := O0.keep K1 all0
  obtain ⟨cq6, kq6, q6a, q6b, q6c⟩ := isOf hZ1 rfl fq1_0
  obtain ⟨_, T6, L6, X6, hS6, hW6, hQ6, st6⟩ := own_callVV (Z := Z) X1 hx (y := own_m47) (z := own_m47) hown1 (mvT hZ1 (wd hw 185 rfl)) (mvT hZ1 (wd hw 186 rfl)) (notFace_of_selects (args := #[]) (mvT hZ1 (wd hw 188 rfl))) (mvT hZ1 (wd hw 188 rfl)) (mvT hZ1 (wd hw 187 rfl)) (by decide) (own_backV (W := 0) (rm_asw l Z a0 hw [] b1 s16 kd rq s17 wh r1 ho hv r2 w_TEXT ch ne T1.heap n0 f5 fq1_1 fq1_2 fq1_3 fq1_4 fq1_5 fq1_6 fq1_7 fq1_8 f2 f3 hhv hrq hwn hT1 hT2 S_TEXT f4 hkt) hZ1 (wd hw 189 rfl) (wd hw 97 rfl) (by decide) (by decide) (fun _ q => own_wmS wmq1 q)) q6a q6c (g := (mkF m 458 #[iv i0, iv i1, iv i2, iv i3, iv i4, iv i5, rv ka, rv ra, rv kd, iv tv, iv rq, iv wh, iv hd, iv nc, rv r1, rv r2, rv s16, rv s17, rv s18, rv v19, rv v20, rv v21, rv al, rv b1, .unset, .unset, .unset] [(.ref r2), (.ref b1)])) rfl (by rw [hml]; rfl) (argsL := [(.ref r2)]) (rest := []) (lenOf pd__Lcom_example_countersign_countersign_Parameter_Role__Lcom_example_countersign_countersign_Parameter_ rfl) rfl (by show 2 * 0 + _ ≤ _; exact Nat.le_of_eq rfl) (hb hby at_458) rfl rfl (by decide) (by decide) (c' := 79) (s' := 1642) rfl rfl hS1 (Nat.le_refl _)
  clear q6a q6b q6c kq6 cq6
  obtain ⟨b6, rfl, Nq6, K6, fq6_0, fq6_1, fq6_2, fq6_3, fq6_4, fq6_5, fq6_6, fq6_7, fq6_8, xq6_fresh_b, wmq6⟩ := hQ6
  have N6 := Fr.app N1 Nq6
  have hZ6 : Z.Warmed39 (s.setVm T6.vm).vm := own_hZ hZs hS6
  have hown6 : (s.setVm T6.vm).vm.findClass ks3 = some m.cls := own_hown howns hS6
  refine own_spV (q := 461) (S' := [(.ref b6)]) st6 ?_
  clear st6
  refine own_stV (T' := T6) (g' := (mkF m 463 #[iv i0, iv i1, iv i2, iv i3, iv i4, iv i5, rv ka, rv ra, rv kd, iv tv, iv rq, iv wh, iv hd, iv nc, rv r1, rv r2, rv s16, rv s17, rv s18, rv v19, rv v20, rv v21, rv al, rv b1, rv b6, .unset, .unset] [])) (fun _ k_ => XS.astore X6.here hx rfl (hb hby at_461) rfl rfl (l' := #[iv i0, iv i1, iv i2, iv i3, iv i4, iv i5, rv ka, rv ra, rv kd, iv tv, iv rq, iv wh, iv hd, iv nc, rv r1, rv r2, rv s16, rv s17, rv s18, rv v19, rv v20, rv v21, rv al, rv b1, rv b6, .unset, .unset]) rfl k_) ?_
  refine own_spV (q := 465) (S' := [(.ref b6)]) (fun _ k_ => XS.aload X6.here hx rfl (hb hby at_463) rfl rfl  k_) ?_
  have f7 := f5.keep K6 all0
  refine own_kcV own_ckV X6 hx hZ6 hown6 hml (y := own_m59) (wd hw 190 rfl) (wd hw 191 rfl) (wd hw 193 rfl) (wd hw 192 rfl) (wd hw 97 rfl) (wd hw 194 rfl) (by decide) fq6_0 (rm_get_role l Z a0 hw [] b6 r2 T6.heap n0 f7 fq6_7) (by decide) (by decide) (W := 0) (Nat.le_of_eq rfl) (argsL := []) (rest := []) (lenOf pd___Lcom_example_countersign_countersign_Parameter_Role_ rfl) rfl rfl (hb hby at_465) rfl rfl (by decide) (by decide) (c' := 79) (s' := 1642) rfl rfl (q := 468) rfl fun _ T8 L8 X8 hQ8 => ?_
  obtain ⟨rfl, Nq8, eq8⟩ := hQ8
  have N8 := Fr.app N6 Nq8
  show own_V p e below s _ _ _ T8 (mkF m 468 _ [(.ref r2)])
  refine own_spV (q := 470) (S' := [(.ref r2), (.ref r2)]) (fun _ k_ => XS.aload X8.here hx rfl (hb hby at_468) rfl rfl  k_) ?_
  refine own_spV (q := 473) (S' := []) (fun _ k_ => Jvm.RoadKit.acmp (g := (mkF m 470 #[iv i0, iv i1, iv i2, iv i3, iv i4, iv i5, rv ka, rv ra, rv kd, iv tv, iv rq, iv wh, iv hd, iv nc, rv r1, rv r2, rv s16, rv s17, rv s18, rv v19, rv v20, rv v21, rv al, rv b1, rv b6, .unset, .unset] [(.ref r2), (.ref r2)])) X8 hx rfl rfl rfl (pc0 := 470) (pc' := 473) (same := true) rfl (hb hby at_470) rfl (decide_eq_true rfl) (by decide) (by decide) k_) ?_
  refine own_spV (q := 475) (S' := [(.ref b1)]) (fun _ k_ => XS.aload X8.here hx rfl (hb hby at_473) rfl rfl  k_) ?_
  have f9 := fq1_7.keep K6 nin0
  have f11 := fq1_0.keep K6
  refine own_kcV own_ckV X8 hx hZ6 hown6 hml (y := own_m59) (wd hw 190 rfl) (wd hw 191 rfl) (wd hw 193 rfl) (wd hw 192 rfl) (wd hw 97 rfl) (wd hw 194 rfl) (by decide) f11 (rm_get_role l Z a0 hw [] b1 r1 T6.heap n0 f7 f9) (by decide) (by decide) (W := 0) (Nat.le_of_eq rfl) (argsL := []) (rest := []) (lenOf pd___Lcom_example_countersign_countersign_Parameter_Role_ rfl) rfl rfl (hb hby at_475) rfl eq8 (by decide) (by decide) (c' := 79) (s' := 1642) rfl rfl (q := 478) rfl fun _ T10 L10 X10 hQ10 => ?_
  obtain ⟨rfl, Nq10, eq10⟩ := hQ10
  have N10 := Fr.app N8 Nq10
  show own_V p e below s _ _ _ T10 (mkF m 478 _ [(.ref r1)])
  refine own_spV (q := 480) (S' := [(.ref r1), (.ref r1)]) (fun _ k_ => XS.aload X10.here hx rfl (hb hby at_478) rfl rfl  k_) ?_
  refine own_spV (q := 483) (S' := []) (fun _ k_ => Jvm.RoadKit.acmp (g := (mkF m 480 #[iv i0, iv i1, iv i2, iv i3, iv i4, iv i5, rv ka, rv ra, rv kd, iv tv, iv rq, iv wh, iv hd, iv nc, rv r1, rv r2, rv s16, rv s17, rv s18, rv v19, rv v20, rv v21, rv al, rv b1, rv b6, .unset, .unset] [(.ref r1), (.ref r1)])) X10 hx rfl rfl rfl (pc0 := 480) (pc' := 483) (same := true) rfl (hb hby at_480) rfl (decide_eq_true rfl) (by decide) (by decide) k_) ?_
  refine own_spV (q := 485) (S' := [(.ref b6)]) (fun _ k_ => XS.aload X10.here hx rfl (hb hby at_483) rfl rfl  k_) ?_
  refine own_kcV own_ckV X10 hx hZ6 hown6 hml (y := own_m53) (wd hw 195 rfl) (wd hw 196 rfl) (wd hw 198 rfl) (wd hw 197 rfl) (wd hw 97 rfl) (wd hw 199 rfl) (by decide) fq6_0 (rm_get_name l Z a0 hw [] b6 s16 T6.heap n0 f7 fq6_1) (by decide) (by decide) (W := 0) (Nat.le_of_eq rfl) (argsL := []) (rest := []) (lenOf pd___Ljava_lang_String_ rfl) rfl rfl (hb hby at_485) rfl eq10 (by decide) (by decide) (c' := 79) (s' := 1642) rfl rfl (q := 488) rfl fun _ T12 L12 X12 hQ12 => ?_
  obtain ⟨rfl, Nq12, eq12⟩ := hQ12
  have N12 := Fr.app N10 Nq12
  show own_V p e below s _ _ _ T12 (mkF m 488 _ [(.ref s16)])
  refine own_spV (q := 490) (S' := [(.ref s16), (.ref s16)]) (fun _ k_ => XS.aload X12.here hx rfl (hb hby at_488) rfl rfl  k_) ?_
  have f14 := E_s16.keep K1
  have f15 := f14.keep K6
  refine own_kcV own_ckV X12 hx hZ6 hown6 hml (y := own_m41) (wd hw 200 rfl) (wd hw 201 rfl) (wd hw 203 rfl) (wd hw 202 rfl) (wd hw 29 rfl) (wd hw 204 rfl) (by decide) f15 (rm_eqs l Z a0 hw [] s16 T6.heap n0 f7) (by decide) (by decide) (W := 0) (Nat.le_of_eq rfl) (argsL := [(.ref s16)]) (rest := []) (lenOf pd__Ljava_lang_Object__Z rfl) rfl rfl (hb hby at_490) rfl eq12 (by decide) (by decide) (c' := 79) (s' := 1642) rfl rfl (q := 493) rfl fun _ T13 L13 X13 hQ13 => ?_
  obtain ⟨rfl, Nq13, eq13⟩ := hQ13
  have N13 := Fr.app N12 Nq13
  show own_V p e below s _ _ _ T13 (mkF m 493 _ [(.int (1 : Int32))])
  refine own_spV (q := 496) (S' := []) (fun _ k_ => XS.ifNo X13.here hx rfl (hb hby at_493) rfl ((if0 _ _).trans (feq (by decide : ¬ ((1 : Int32) = (0 : Int32)))).1) k_) ?_
  refine own_spV (q := 498) (S' := [(.ref b6)]) (fun _ k_ => XS.aload X13.here hx rfl (hb hby at_496) rfl rfl  k_) ?_
  refine own_kcV own_ckV X13 hx hZ6 hown6 hml (y := own_m54) (wd hw 205 rfl) (wd hw 206 rfl) (wd hw 208 rfl) (wd hw 207 rfl) (wd hw 97 rfl) (wd hw 209 rfl) (by decide) fq6_0 (rm_get_kind l Z a0 hw [] b6 kd T6.heap n0 f7 fq6_2) (by decide) (by decide) (W := 0) (Nat.le_of_eq rfl) (argsL := []) (rest := []) (lenOf pd___Lcom_example_countersign_countersign_Parameter_Kind_ rfl) rfl rfl (hb hby at_498) rfl eq13 (by decide) (by decide) (c' := 79) (s' := 1642) rfl rfl (q := 501) rfl fun _ T16 L16 X16 hQ16 => ?_
  obtain ⟨rfl, Nq16, eq16⟩ := hQ16
  have N16 := Fr.app N13 Nq16
  show own_V p e below s _ _ _ T16 (mkF m 501 _ [(.ref kd)])
  refine own_spV (q := 503) (S' := [(.ref kd), (.ref kd)]) (fun _ k_ => XS.aload X16.here hx rfl (hb hby at_501) rfl rfl  k_) ?_
  refine own_spV (q := 506) (S' := []) (fun _ k_ => Jvm.RoadKit.acmp (g := (mkF m 503 #[iv i0, iv i1, iv i2, iv i3, iv i4, iv i5, rv ka, rv ra, rv kd, iv tv, iv rq, iv wh, iv hd, iv nc, rv r1, rv r2, rv s16, rv s17, rv s18, rv v19, rv v20, rv v21, rv al, rv b1, rv b6, .unset, .unset] [(.ref kd), (.ref kd)])) X16 hx rfl rfl rfl (pc0 := 503) (pc' := 506) (same := true) rfl (hb hby at_503) rfl (decide_eq_true rfl) (by decide) (by decide) k_) ?_
  refine own_spV (q := 508) (S' := [(.ref b6)]) (fun _ k_ => XS.aload X16.here hx rfl (hb hby at_506) rfl rfl  k_) ?_
  refine own_kcV own_ckV X16 hx hZ6 hown6 hml (y := own_m55) (wd hw 210 rfl) (wd hw 211 rfl) (wd hw 213 rfl) (wd hw 212 rfl) (wd hw 97 rfl) (wd hw 214 rfl) (by decide) fq6_0 (rm_get_required l Z a0 hw [] b6 rq T6.heap n0 f7 fq6_3 hrq) (by decide) (by decide) (W := 0) (Nat.le_of_eq rfl) (argsL := []) (rest := []) (lenOf pd___Z rfl) rfl rfl (hb hby at_508) rfl eq16 (by decide) (by decide) (c' := 79) (s' := 1642) rfl rfl (q := 511) rfl fun _ T17 L17 X17 hQ17 => ?_
  obtain ⟨rfl, Nq17, eq17⟩ := hQ17
  have N17 := Fr.app N16 Nq17
  show own_V p e below s _ _ _ T17 (mkF m 511 _ [(.int rq)])
  refine own_spV (q := 513) (S' := [(.int rq), (.int rq)]) (fun _ k_ => XS.iload X17.here hx rfl (hb hby at_511) rfl  k_) ?_
  refine own_spV (q := 516) (S' := []) (fun _ k_ => XS.icmpNo X17.here hx rfl (hb hby at_513) rfl (teq (rfl : rq = rq)).2 k_) ?_
  refine own_spV (q := 518) (S' := [(.ref b6)]) (fun _ k_ => XS.aload X17.here hx rfl (hb hby at_516) rfl rfl  k_) ?_
  refine own_kcV own_ckV X17 hx hZ6 hown6 hml (y := own_m56) (wd hw 215 rfl) (wd hw 216 rfl) (wd hw 218 rfl) (wd hw 217 rfl) (wd hw 97 rfl) (wd hw 219 rfl) (by decide) fq6_0 (rm_get_description l Z a0 hw [] b6 s17 T6.heap n0 f7 fq6_4) (by decide) (by decide) (W := 0) (Nat.le_of_eq rfl) (argsL := []) (rest := []) (lenOf pd___Ljava_lang_String_ rfl) rfl rfl (hb hby at_518) rfl eq17 (by decide) (by decide) (c' := 79) (s' := 1642) rfl rfl (q := 521) rfl fun _ T18 L18 X18 hQ18 => ?_
  obtain ⟨rfl, Nq18, eq18⟩ := hQ18
  have N18 := Fr.app N17 Nq18
  show own_V p e below s _ _ _ T18 (mkF m 521 _ [(.ref s17)])
  refine own_spV (q := 523) (S' := [(.ref s17), (.ref s17)]) (fun _ k_ => XS.aload X18.here hx rfl (hb hby at_521) rfl rfl  k_) ?_
  have f20 := E_s17.keep K1
  have f21 := f20.keep K6
  refine own_kcV own_ckV X18 hx hZ6 hown6 hml (y := own_m41) (wd hw 200 rfl) (wd hw 201 rfl) (wd hw 203 rfl) (wd hw 202 rfl) (wd hw 29 rfl) (wd hw 204 rfl) (by decide) f21 (rm_eqs l Z a0 hw [] s17 T6.heap n0 f7) (by decide) (by decide) (W := 0) (Nat.le_of_eq rfl) (argsL := [(.ref s17)]) (rest := []) (lenOf pd__Ljava_lang_Object__Z rfl) rfl rfl (hb hby at_523) rfl eq18 (by decide) (by decide) (c' := 79) (s' := 1642) rfl rfl (q := 526) rfl fun _ T19 L19 X19 hQ19 => ?_
  obtain ⟨rfl, Nq19, eq19⟩ := hQ19
  have N19 := Fr.app N18 Nq19
  show own_V p e below s _ _ _ T19 (mkF m 526 _ [(.int (1 : Int32))])
  refine own_spV (q := 529) (S' := []) (fun _ k_ => XS.ifNo X19.here hx rfl (hb hby at_526) rfl ((if0 _ _).trans (feq (by decide : ¬ ((1 : Int32) = (0 : Int32)))).1) k_) ?_
  refine own_spV (q := 531) (S' := [(.ref b6)]) (fun _ k_ => XS.aload X19.here hx rfl (hb hby at_529) rfl rfl  k_) ?_
  refine own_kcV own_ckV X19 hx hZ6 hown6 hml (y := own_m58) (wd hw 220 rfl) (wd hw 221 rfl) (wd hw 223 rfl) (wd hw 222 rfl) (wd hw 97 rfl) (wd hw 224 rfl) (by decide) fq6_0 (rm_get_wholeNumber l Z a0 hw [] b6 wh T6.heap n0 f7 fq6_6 hwn) (by decide) (by decide) (W := 0) (Nat.le_of_eq rfl) (argsL := []) (rest := []) (lenOf pd___Z rfl) rfl rfl (hb hby at_531) rfl eq19 (by decide) (by decide) (c' := 79) (s' := 1642) rfl rfl (q := 534) rfl fun _ T22 L22 X22 hQ22 => ?_
  obtain ⟨rfl, Nq22, eq22⟩ := hQ22
  have N22 := Fr.app N19 Nq22
  show own_V p e below s _ _ _ T22 (mkF m 534 _ [(.int wh)])
  refine own_spV (q := 536) (S' := [(.int wh), (.int wh)]) (fun _ k_ => XS.iload X22.here hx rfl (hb hby at_534) rfl  k_) ?_
  refine own_spV (q := 539) (S' := []) (fun _ k_ => XS.icmpNo X22.here hx rfl (hb hby at_536) rfl (teq (rfl : wh = wh)).2 k_) ?_
  refine own_spV (q := 541) (S' := [(.ref b6)]) (fun _ k_ => XS.aload X22.here hx rfl (hb hby at_539) rfl rfl  k_) ?_
  refine own_kcV own_ckV X22 hx hZ6 hown6 hml (y := own_m60) (wd hw 225 rfl) (wd hw 226 rfl) (wd hw 228 rfl) (wd hw 227 rfl) (wd hw 97 rfl) (wd hw 229 rfl) (by decide) fq6_0 (rm_get_header l Z a0 hw [] b6 ho T6.heap n0 f7 fq6_8) (by decide) (by decide) (W := 0) (Nat.le_of_eq rfl) (argsL := []) (rest := []) (lenOf pd___Ljava_util_Optional_ rfl) rfl rfl (hb hby at_541) rfl eq22 (by decide) (by decide) (c' := 79) (s' := 1642) rfl rfl (q := 544) rfl fun _ T23 L23 X23 hQ23 => ?_
  obtain ⟨rfl, Nq23, eq23⟩ := hQ23
  have N23 := Fr.app N22 Nq23
  show own_V p e below s _ _ _ T23 (mkF m 544 _ [(.ref ho)])
  have f24 := f3.keep K6 nin0
  have f26 := f2.keep K6
  refine own_kcV own_ckV X23 hx hZ6 hown6 hml (y := own_m37) (wd hw 230 rfl) (wd hw 163 rfl) (wd hw 165 rfl) (wd hw 164 rfl) (wd hw 110 rfl) (wd hw 166 rfl) (by decide) f26 (rm_ispr l Z a0 hw [] ho hv T6.heap n0 f7 f24 hhv) (by decide) (by decide) (W := 0) (Nat.le_of_eq rfl) (argsL := []) (rest := []) (lenOf pd___Z rfl) rfl rfl (hb hby at_544) rfl eq23 (by decide) (by decide) (c' := 79) (s' := 1642) rfl rfl (q := 547) rfl fun _ T25 L25 X25 hQ25 => ?_
  obtain ⟨rfl, Nq25, eq25⟩ := hQ25
  have N25 := Fr.app N23 Nq25
  show own_V p e below s _ _ _ T25 (mkF m 547 _ [(.int (own_pv hv))])
  refine own_spV (q := 549) (S' := [(.int hd), (.int (own_pv hv))]) (fun _ k_ => XS.iload X25.here hx rfl (hb hby at_547) rfl  k_) ?_
  refine own_spV (q := 552) (S' := []) (fun _ k_ => XS.icmpNo X25.here hx rfl (hb hby at_549) rfl (teq (hpv : (own_pv hv) = hd)).2 k_) ?_
  refine own_spV (q := 554) (S' := [(.ref b6)]) (fun _ k_ => XS.aload X25.here hx rfl (hb hby at_552) rfl rfl  k_) ?_
  refine own_kcV own_ckV X25 hx hZ6 hown6 hml (y := own_m60) (wd hw 225 rfl) (wd hw 226 rfl) (wd hw 228 rfl) (wd hw 227 rfl) (wd hw 97 rfl) (wd hw 229 rfl) (by decide) fq6_0 (rm_get_header l Z a0 hw [] b6 ho T6.heap n0 f7 fq6_8) (by decide) (by decide) (W := 0) (Nat.le_of_eq rfl) (argsL := []) (rest := []) (lenOf pd___Ljava_util_Optional_ rfl) rfl rfl (hb hby at_554) rfl eq25 (by decide) (by decide) (c' := 79) (s' := 1642) rfl rfl (q := 557) rfl fun _ T27 L27 X27 hQ27 => ?_
  obtain ⟨rfl, Nq27, eq27⟩ := hQ27
  have N27 := Fr.app N25 Nq27
  show own_V p e below s _ _ _ T27 (mkF m 557 _ [(.ref ho)])
  refine own_spV (q := 559) (S' := [(.ref b1), (.ref ho)]) (fun _ k_ => XS.aload X27.here hx rfl (hb hby at_557) rfl rfl  k_) ?_
  have f28 := fq1_8.keep K6 nin0
  refine own_kcV own_ckV X27 hx hZ6 hown6 hml (y := own_m60) (wd hw 225 rfl) (wd hw 226 rfl) (wd hw 228 rfl) (wd hw 227 rfl) (wd hw 97 rfl) (wd hw 229 rfl) (by decide) f11 (rm_get_header l Z a0 hw [] b1 ho T6.heap n0 f7 f28) (by decide) (by decide) (W := 1) (Nat.le_of_eq rfl) (argsL := []) (rest := [(.ref ho)]) (lenOf pd___Ljava_util_Optional_ rfl) rfl rfl (hb hby at_559) rfl eq27 (by decide) (by decide) (c' := 79) (s' := 1642) rfl rfl (q := 562) rfl fun _ T29 L29 X29 hQ29 => ?_
  obtain ⟨rfl, Nq29, eq29⟩ := hQ29
  have N29 := Fr.app N27 Nq29
  show own_V p e below s _ _ _ T29 (mkF m 562 _ [(.ref ho), (.ref ho)])
  refine own_kcV own_ckV X29 hx hZ6 hown6 hml (y := own_m40) (wd hw 231 rfl) (wd hw 232 rfl) (wd hw 234 rfl) (wd hw 233 rfl) (wd hw 110 rfl) (wd hw 235 rfl) (by decide) f26 (rm_opeq l Z a0 hw [] ho T6.heap n0 f7) (by decide) (by decide) (W := 0) (Nat.le_of_eq rfl) (argsL := [(.ref ho)]) (rest := []) (lenOf pd__Ljava_lang_Object__Z rfl) rfl rfl (hb hby at_562) rfl eq29 (by decide) (by decide) (c' := 79) (s' := 1642) rfl rfl (q := 565) rfl fun _ T30 L30 X30 hQ30 => ?_
  obtain ⟨rfl, Nq30, eq30⟩ := hQ30
  have N30 := Fr.app N29 Nq30
  show own_V p e below s _ _ _ T30 (mkF m 565 _ [(.int (1 : Int32))])
  refine own_spV (q := 568) (S' := []) (fun _ k_ => XS.ifNo X30.here hx rfl (hb hby at_565) rfl ((if0 _ _).trans (feq (by decide : ¬ ((1 : Int32) = (0 : Int32)))).1) k_) ?_
  refine own_spV (q := 569) (S' := [(.int (1 : Int32))]) (fun _ k_ => XS.iconst X30.here hx rfl (hb hby at_568) k_) ?_
  refine own_spV (q := 573) (S' := [(.int (1 : Int32))]) (fun _ k_ => XS.goto X30.here hx rfl (pc0 := 569) (pc' := 573) rfl (hb hby at_569) (by decide) (by decide) k_) ?_
  refine own_stV (T' := T30) (g' := (mkF m 575 #[iv i0, iv i1, iv i2, iv i3, iv i4, iv i5, rv ka, rv ra, rv kd, iv tv, iv rq, iv wh, iv hd, iv nc, rv r1, rv r2, rv s16, rv s17, rv s18, rv v19, rv v20, rv v21, rv al, rv b1, rv b6, iv (1 : Int32), .unset] [])) (fun _ k_ => XS.istore X30.here hx rfl (hb hby at_573) rfl (l' := #[iv i0, iv i1, iv i2, iv i3, iv i4, iv i5, rv ka, rv ra, rv kd, iv tv, iv rq, iv wh, iv hd, iv nc, rv r1, rv r2, rv s16, rv s17, rv s18, rv v19, rv v20, rv v21, rv al, rv b1, rv b6, iv (1 : Int32), .unset]) rfl k_) ?_
  have f31 := hLP _ _ (own_ext K1) hL
  have f32 := hLP _ _ (own_ext K6) f31
  exact KH b1 b6 T6.heap T6.vm _ T30 _ (X30.mono (by decide) (by decide)) hZ6 hown6 hS6 (Nat.le_refl _) eq30 N30 f7 fq6_5 fq6_0 f32
theorem pd__Ljava_lang_String__Lcom_example_countersign_countersign_Parameter_ : parseMethodDescriptor "(Ljava/lang/String;)Lcom/example/countersign/countersign/Parameter;" = some ⟨[(.object "java/lang/String")], some (.object "com/example/countersign/countersign/Parameter")⟩ := by decide +kernel
theorem seg_F (h0 : Heap) (hB : Heap) (n0 : Nat) (i0 : Int32) (i1 : Int32) (i2 : Int32) (i3 : Int32) (i4 : Int32) (i5 : Int32) (ka : Addr) (ra : Addr) (kd : Addr) (tv : Int32) (rq : Int32) (wh : Int32) (hd : Int32) (nc : Int32) (r1 : Addr) (r2 : Addr) (s16 : Addr) (s17 : Addr) (s18 : Addr) (v19 : Addr) (v20 : Addr) (v21 : Addr) (al : Addr) (w_TEXT : Addr) (w_OPTION : Addr) (w_METHOD : Addr) (w_TARGET : Addr) (w_BODY : Addr) (w_TIME : Addr) (w_NONCE : Addr) (dA : Addr) (clD : Cell) (kO : ClassId) (mir : Addr) (em : Addr) (el : Addr) (oe : Addr) (cz : Int32) (p_ : Addr) (ch : Addr) (ne : Int32) (LP : Heap → Prop)
    (X0 : Stand p l e room_1 (s.setVm vm0) m args below meth c T0 locs 55 1025) (hx : p.tables.exec = Jvm.exec) (hZs : Z.Warmed39 s.vm) (hZ : Z.Warmed39 (s.setVm vm0).vm) (hS0 : s.Since vm0 k0) (hk0 : k0 ≤ hB.size) (hw : own_HW a0 Z) (hby : c.code = code) (hml : c.maxLocals = 27) (howns : s.vm.findClass ks3 = some m.cls) (hown : (s.setVm vm0).vm.findClass ks3 = some m.cls) (hnm : meth.name = "law") (hret : meth.sig.returnType = some .boolean) (hlk : meth.locks = false) (e0 : T0.heap = hB) (N0 : Fr n0 locs) (O0 : Old Z n0 hB) (HBs : own_Bs Z w_TEXT w_OPTION w_METHOD w_TARGET w_BODY w_TIME w_NONCE dA clD kO mir em el oe cz) (E_s16 : Exa Z hB s16 ks10) (E_s17 : Exa Z hB s17 ks10) (X_r1 : Exa Z Z.heap r1 ks1) (X_r2 : Exa Z Z.heap r2 ks1) (hrq : own_B rq) (hwn : own_B wh) (hhd : own_B hd) (hT1 : ¬ wh = (0 : Int32) → kd = w_TEXT) (hT4 : ¬ hd = (0 : Int32) → kd = w_TEXT) (hkt : ne = (0 : Int32) → kd = w_TEXT) (PP0 : Exa Z hB p_ ks0) (PP1 : Fld Z hB p_ ks0 "name" ks13 (.ref s16)) (PP2 : Fld Z hB p_ ks0 "kind" ks5 (.ref kd)) (PP3 : Fld Z hB p_ ks0 ks23 "Z" (.int rq)) (PP4 : Fld Z hB p_ ks0 ks21 ks13 (.ref s17)) (PP5 : Fld Z hB p_ ks0 "choices" ks16 (.ref ch)) (PP6 : Fld Z hB p_ ks0 ks22 "Z" (.int wh)) (PP7 : Fld Z hB p_ ks0 "role" ks7 (.ref w_OPTION)) (PP8 : Fld Z hB p_ ks0 "header" ks15 (.ref oe)) (IL_ch : own_IL Z hB ch ne) (hLP : ∀ h h', Ext h h' → LP h → LP h') (hL : LP hB) (KH : ∀ (p2 q_ : Addr) (h : Heap) (vm : Vm) (k : Nat) (T : State) (locs : List Loc), Stand p l e room_1 (s.setVm vm) m args below meth c T locs 79 1650 → Z.Warmed39 (s.setVm vm).vm → (s.setVm vm).vm.findClass ks3 = some m.cls → s.Since vm k → k ≤ h.size → T.heap = h → Fr n0 locs → Old Z n0 h → Fld Z h q_ ks0 "choices" ks16 (.ref ch) → Exa Z h q_ ks0 → LP h → own_V p e below s room_1.cells room_1.slots (fun v h L _ => own_L n0 v h L) T (mkF m 575 #[iv i0, iv i1, iv i2, iv i3, iv i4, iv i5, rv ka, rv ra, rv kd, iv tv, iv rq, iv wh, iv hd, iv nc, rv r1, rv r2, rv s16, rv s17, rv s18, rv v19, rv v20, rv v21, rv al, rv p2, rv q_, iv (1 : Int32), .unset] [])) :
    own_V p e below s room_1.cells room_1.slots (fun v h L _ => own_L n0 v h L) T0 (mkF m 431 #[iv i0, iv i1, iv i2, iv i3, iv i4, iv i5, rv ka, rv ra, rv kd, iv tv, iv rq, iv wh, iv hd, iv nc, rv r1, rv r2, rv s16, rv s17, rv s18, rv v19, rv v20, rv v21, rv al, rv p_, .unset, .unset, .unset] []) := by
  obtain ⟨S_TEXT, S_OPTION, X_OPTION, S_METHOD, X_METHOD, S_TARGET, X_TARGET, S_BODY, X_BODY, S_TIME, X_TIME, S_NONCE, X_NONCE, SDe, AD, LD, OV, FC, MIR, SEm, X_em, S_el, IL_el, S_oe, X_oe, F_oe, SC, hcz⟩ := id HBs
  refine own_stV (T' := T0) (g' := (mkF m 433 #[iv i0, iv i1, iv i2, iv i3, iv i4, iv i5, rv ka, rv ra, rv kd, iv tv, iv rq, iv wh, iv hd, iv nc, rv r1, rv r2, rv s16, rv s17, rv s18, rv v19, rv v20, rv v21, rv al, rv p_, .unset, .unset, .unset] [(.int hd)])) (fun _ k_ => XS.iload X0.here hx rfl (hb hby at_431) rfl  k_) ?_
  by_cases hc1 : hd = (0 : Int32)
  · refine own_spV (q := 445) (S' := []) (fun _ k_ => XS.ifYes X0.here hx rfl (pc0 := 433) (pc' := 445) rfl (hb hby at_433) rfl ((if0 _ _).trans (teq hc1).1) (by decide) (by decide) k_) ?_
    exact seg_G h0 hB n0 i0 i1 i2 i3 i4 i5 ka ra kd tv rq wh hd nc r1 r2 s16 s17 s18 v19 v20 v21 al w_TEXT w_OPTION w_METHOD w_TARGET w_BODY w_TIME w_NONCE dA clD kO mir em el oe cz oe .null p_ ch ne LP (X0.mono (by decide) (by decide)) hx hZs hZ hS0 hk0 hw hby hml howns hown hnm hret hlk e0 N0 O0 HBs E_s16 E_s17 X_r1 X_r2 hrq hwn hhd hT1 hT4 hkt (X_oe.ext O0.2) (F_oe.ext O0.2) rfl hc1.symm (fun q => absurd rfl q) PP0 PP1 PP2 PP3 PP4 PP5 PP6 PP7 PP8 IL_ch hLP hL KH
  · refine own_spV (q := 436) (S' := []) (fun _ k_ => XS.ifNo X0.here hx rfl (hb hby at_433) rfl ((if0 _ _).trans (feq hc1).1) k_) ?_
    refine own_spV (q := 438) (S' := [(.ref p_)]) (fun _ k_ => XS.aload X0.here hx rfl (hb hby at_436) rfl rfl  k_) ?_
    refine own_spV (q := 440) (S' := [(.ref s18), (.ref p_)]) (fun _ k_ => XS.aload X0.here hx rfl (hb hby at_438) rfl rfl  k_) ?_
    obtain ⟨cq2, kq2, q2a, q2b, q2c⟩ := isOf hZ e0 PP0
    obtain ⟨_, T2, L2, X2, hS2, hW2, hQ2, st2⟩ := own_callVV (Z := Z) X0 hx (y := own_m49) (z := own_m49) hown (mvT hZ (wd hw 372 rfl)) (mvT hZ (wd hw 373 rfl)) (notFace_of_selects (args := #[]) (mvT hZ (wd hw 375 rfl))) (mvT hZ (wd hw 375 rfl)) (mvT hZ (wd hw 374 rfl)) (by decide) (own_backV (W := 0) (rm_snt l Z a0 hw [] p_ s16 kd rq s17 wh w_OPTION oe s18 w_TEXT ch ne hB n0 O0 PP1 PP2 PP3 PP4 PP5 PP6 PP7 PP8 hrq hwn (hT4 hc1) S_TEXT IL_ch hkt) hZ (wd hw 376 rfl) (wd hw 97 rfl) (by decide) (by decide) (fun _ _ => trivial)) q2a q2c (g := (mkF m 440 #[iv i0, iv i1, iv i2, iv i3, iv i4, iv i5, rv ka, rv ra, rv kd, iv tv, iv rq, iv wh, iv hd, iv nc, rv r1, rv r2, rv s16, rv s17, rv s18, rv v19, rv v20, rv v21, rv al, rv p_, .unset, .unset, .unset] [(.ref s18), (.ref p_)])) rfl (by rw [hml]; rfl) (argsL := [(.ref s18)]) (rest := []) (lenOf pd__Ljava_lang_String__Lcom_example_countersign_countersign_Parameter_ rfl) rfl (by show 2 * 0 + _ ≤ _; exact Nat.le_of_eq rfl) (hb hby at_440) rfl e0 (by decide) (by decide) (c' := 67) (s' := 1330) rfl rfl hS0 hk0
    clear q2a q2b q2c kq2 cq2
    obtain ⟨b2, hn2, rfl, Nq2, K2, fq2_0, fq2_1, fq2_2, fq2_3, fq2_4, fq2_5, fq2_6, fq2_7, fq2_8, fq2_9, fq2_10, xq2_fresh_b, wmq2⟩ := hQ2
    have N2 := Fr.app N0 Nq2
    have hZ2 : Z.Warmed39 (s.setVm T2.vm).vm := own_hZ hZs hS2
    have hown2 : (s.setVm T2.vm).vm.findClass ks3 = some m.cls := own_hown howns hS2
    refine own_spV (q := 443) (S' := [(.ref b2)]) st2 ?_
    clear st2
    refine own_stV (T' := T2) (g' := (mkF m 445 #[iv i0, iv i1, iv i2, iv i3, iv i4, iv i5, rv ka, rv ra, rv kd, iv tv, iv rq, iv wh, iv hd, iv nc, rv r1, rv r2, rv s16, rv s17, rv s18, rv v19, rv v20, rv v21, rv al, rv b2, .unset, .unset, .unset] [])) (fun _ k_ => XS.astore X2.here hx rfl (hb hby at_443) rfl rfl (l' := #[iv i0, iv i1, iv i2, iv i3, iv i4, iv i5, rv ka, rv ra, rv kd, iv tv, iv rq, iv wh, iv hd, iv nc, rv r1, rv r2, rv s16, rv s17, rv s18, rv v19, rv v20, rv v21, rv al, rv b2, .unset, .unset, .unset]) rfl k_) ?_
    have f3 := E_s16.keep K2
    have f4 := E_s17.keep K2
    have f5 := own_ILk IL_ch K2
    have f6 := hLP _ _ (own_ext K2) hL
    have f7 := O0.keep K2 all0
    exact seg_G h0 T2.heap n0 i0 i1 i2 i3 i4 i5 ka ra kd tv rq wh hd nc r1 r2 s16 s17 s18 v19 v20 v21 al w_TEXT w_OPTION w_METHOD w_TARGET w_BODY w_TIME w_NONCE dA clD kO mir em el oe cz hn2 (.ref s18) b2 ch ne LP (X2.mono (by decide) (by decide)) hx hZs hZ2 hS2 (Nat.le_refl _) hw hby hml howns hown2 hnm hret hlk rfl N2 f7 HBs f3 f4 X_r1 X_r2 hrq hwn hhd hT1 hT4 hkt fq2_9 fq2_10 rfl (hhd.resolve_left hc1).symm (fun _ => hT4 hc1) fq2_0 fq2_1 fq2_2 fq2_3 fq2_4 fq2_5 fq2_6 fq2_7 fq2_8 f5 hLP f6 KH
theorem pd___Lcom_example_countersign_countersign_Parameter_ : parseMethodDescriptor "()Lcom/example/countersign/countersign/Parameter;" = some ⟨[], some (.object "com/example/countersign/countersign/Parameter")⟩ := by decide +kernel
theorem seg_C0 (h0 : Heap) (hB : Heap) (n0 : Nat) (i0 : Int32) (i1 : Int32) (i2 : Int32) (i3 : Int32) (i4 : Int32) (i5 : Int32) (ka : Addr) (ra : Addr) (kd : Addr) (tv : Int32) (rq : Int32) (wh : Int32) (hd : Int32) (r1 : Addr) (r2 : Addr) (s16 : Addr) (s17 : Addr) (s18 : Addr) (v19 : Addr) (v20 : Addr) (v21 : Addr) (al : Addr) (w_TEXT : Addr) (w_OPTION : Addr) (w_METHOD : Addr) (w_TARGET : Addr) (w_BODY : Addr) (w_TIME : Addr) (w_NONCE : Addr) (dA : Addr) (clD : Cell) (kO : ClassId) (mir : Addr) (em : Addr) (el : Addr) (oe : Addr) (cz : Int32) (p_ : Addr)
    (X0 : Stand p l e room_1 (s.setVm vm0) m args below meth c T0 locs 30 376) (hx : p.tables.exec = Jvm.exec) (hZs : Z.Warmed39 s.vm) (hZ : Z.Warmed39 (s.setVm vm0).vm) (hS0 : s.Since vm0 k0) (hk0 : k0 ≤ hB.size) (hw : own_HW a0 Z) (hby : c.code = code) (hml : c.maxLocals = 27) (howns : s.vm.findClass ks3 = some m.cls) (hown : (s.setVm vm0).vm.findClass ks3 = some m.cls) (hnm : meth.name = "law") (hret : meth.sig.returnType = some .boolean) (hlk : meth.locks = false) (e0 : T0.heap = hB) (N0 : Fr n0 locs) (O0 : Old Z n0 hB) (HBs : own_Bs Z w_TEXT w_OPTION w_METHOD w_TARGET w_BODY w_TIME w_NONCE dA clD kO mir em el oe cz) (E_s16 : Exa Z hB s16 ks10) (E_s17 : Exa Z hB s17 ks10) (X_r1 : Exa Z Z.heap r1 ks1) (X_r2 : Exa Z Z.heap r2 ks1) (hrq : own_B rq) (hwn : own_B wh) (hhd : own_B hd) (hT1 : ¬ wh = (0 : Int32) → kd = w_TEXT) (hT4 : ¬ hd = (0 : Int32) → kd = w_TEXT) (PP0 : Exa Z hB p_ ks0) (PP1 : Fld Z hB p_ ks0 "name" ks13 (.ref s16)) (PP2 : Fld Z hB p_ ks0 "kind" ks5 (.ref kd)) (PP3 : Fld Z hB p_ ks0 ks23 "Z" (.int rq)) (PP4 : Fld Z hB p_ ks0 ks21 ks13 (.ref s17)) (PP5 : Fld Z hB p_ ks0 "choices" ks16 (.ref el)) (PP6 : Fld Z hB p_ ks0 ks22 "Z" (.int (0 : Int32))) (PP7 : Fld Z hB p_ ks0 "role" ks7 (.ref w_OPTION)) (PP8 : Fld Z hB p_ ks0 "header" ks15 (.ref oe)) :
    own_V p e below s room_1.cells room_1.slots (fun v h L _ => own_L n0 v h L) T0 (mkF m 405 #[iv i0, iv i1, iv i2, iv i3, iv i4, iv i5, rv ka, rv ra, rv kd, iv tv, iv rq, iv wh, iv hd, iv (0 : Int32), rv r1, rv r2, rv s16, rv s17, rv s18, rv v19, rv v20, rv v21, rv al, rv p_, .unset, .unset, .unset] []) := by
  obtain ⟨S_TEXT, S_OPTION, X_OPTION, S_METHOD, X_METHOD, S_TARGET, X_TARGET, S_BODY, X_BODY, S_TIME, X_TIME, S_NONCE, X_NONCE, SDe, AD, LD, OV, FC, MIR, SEm, X_em, S_el, IL_el, S_oe, X_oe, F_oe, SC, hcz⟩ := id HBs
  refine own_stV (T' := T0) (g' := (mkF m 407 #[iv i0, iv i1, iv i2, iv i3, iv i4, iv i5, rv ka, rv ra, rv kd, iv tv, iv rq, iv wh, iv hd, iv (0 : Int32), rv r1, rv r2, rv s16, rv s17, rv s18, rv v19, rv v20, rv v21, rv al, rv p_, .unset, .unset, .unset] [(.int (0 : Int32))])) (fun _ k_ => XS.iload X0.here hx rfl (hb hby at_405) rfl  k_) ?_
  refine own_spV (q := 419) (S' := []) (fun _ k_ => XS.ifYes X0.here hx rfl (pc0 := 407) (pc' := 419) rfl (hb hby at_407) rfl ((if0 _ _).trans (flt (by decide : ¬ ((0 : Int32) < (0 : Int32)))).2.2.2) (by decide) (by decide) k_) ?_
  have il1 : own_IL Z hB el (1 : Int32) := (own_ILe IL_el O0.2)
  have hkt_ : (1 : Int32) = (0 : Int32) → kd = w_TEXT := fun q => absurd q (by decide)
  refine own_spV (q := 421) (S' := [(.int wh)]) (fun _ k_ => XS.iload X0.here hx rfl (hb hby at_419) rfl  k_) ?_
  by_cases hc2 : wh = (0 : Int32)
  · refine own_spV (q := 431) (S' := []) (fun _ k_ => XS.ifYes X0.here hx rfl (pc0 := 421) (pc' := 431) rfl (hb hby at_421) rfl ((if0 _ _).trans (teq hc2).1) (by decide) (by decide) k_) ?_
    exact seg_F h0 hB n0 i0 i1 i2 i3 i4 i5 ka ra kd tv rq wh hd (0 : Int32) r1 r2 s16 s17 s18 v19 v20 v21 al w_TEXT w_OPTION w_METHOD w_TARGET w_BODY w_TIME w_NONCE dA clD kO mir em el oe cz p_ el (1 : Int32) (fun h => True) (X0.mono (by decide) (by decide)) hx hZs hZ hS0 hk0 hw hby hml howns hown hnm hret hlk e0 N0 O0 HBs E_s16 E_s17 X_r1 X_r2 hrq hwn hhd hT1 hT4 hkt_ PP0 PP1 PP2 PP3 PP4 PP5 (by rw [hc2]; exact PP6) PP7 PP8 il1 (fun _ _ _ _ => trivial) trivial (fun p2 q_ h_ vm_ k_ T_ locs_ X_ hZ_ hown_ hS_ hk_ e_ N_ O_ F_q E_q L_ => by
      obtain ⟨-⟩ := L_
      exact seg_H0 h0 h_ n0 i0 i1 i2 i3 i4 i5 ka ra kd tv rq wh hd (0 : Int32) r1 r2 s16 s17 s18 v19 v20 v21 al w_TEXT w_OPTION w_METHOD w_TARGET w_BODY w_TIME w_NONCE dA clD kO mir em el oe cz p2 q_ X_ hx hZs hZ_ hS_ hk_ hw hby hml howns hown_ hnm hret hlk e_ N_ O_ HBs F_q E_q)
  · refine own_spV (q := 424) (S' := []) (fun _ k_ => XS.ifNo X0.here hx rfl (hb hby at_421) rfl ((if0 _ _).trans (feq hc2).1) k_) ?_
    refine own_spV (q := 426) (S' := [(.ref p_)]) (fun _ k_ => XS.aload X0.here hx rfl (hb hby at_424) rfl rfl  k_) ?_
    obtain ⟨cq3, kq3, q3a, q3b, q3c⟩ := isOf hZ e0 PP0
    obtain ⟨_, T3, L3, X3, hS3, hW3, hQ3, st3⟩ := own_callVV (Z := Z) X0 hx (y := own_m48) (z := own_m48) hown (mvT hZ (wd hw 367 rfl)) (mvT hZ (wd hw 368 rfl)) (notFace_of_selects (args := #[]) (mvT hZ (wd hw 370 rfl))) (mvT hZ (wd hw 370 rfl)) (mvT hZ (wd hw 369 rfl)) (by decide) (own_backV (W := 0) (rm_whn l Z a0 hw [] p_ s16 kd rq s17 w_OPTION oe .null w_TEXT el (1 : Int32) hB n0 O0 PP1 PP2 PP3 PP4 PP5 PP6 PP7 PP8 (X_oe.ext O0.2) (F_oe.ext O0.2) rfl hrq (hT1 hc2) (fun q => absurd rfl q) S_TEXT il1 hkt_) hZ (wd hw 371 rfl) (wd hw 97 rfl) (by decide) (by decide) (fun _ _ => trivial)) q3a q3c (g := (mkF m 426 #[iv i0, iv i1, iv i2, iv i3, iv i4, iv i5, rv ka, rv ra, rv kd, iv tv, iv rq, iv wh, iv hd, iv (0 : Int32), rv r1, rv r2, rv s16, rv s17, rv s18, rv v19, rv v20, rv v21, rv al, rv p_, .unset, .unset, .unset] [(.ref p_)])) rfl (by rw [hml]; rfl) (argsL := []) (rest := []) (lenOf pd___Lcom_example_countersign_countersign_Parameter_ rfl) rfl (by show 2 * 0 + _ ≤ _; exact Nat.le_of_eq rfl) (hb hby at_426) rfl e0 (by decide) (by decide) (c' := 41) (s' := 680) rfl rfl hS0 hk0
    clear q3a q3b q3c kq3 cq3
    obtain ⟨b3, rfl, Nq3, K3, fq3_0, fq3_1, fq3_2, fq3_3, fq3_4, fq3_5, fq3_6, fq3_7, fq3_8, xq3_fresh_b, wmq3⟩ := hQ3
    have N3 := Fr.app N0 Nq3
    have hZ3 : Z.Warmed39 (s.setVm T3.vm).vm := own_hZ hZs hS3
    have hown3 : (s.setVm T3.vm).vm.findClass ks3 = some m.cls := own_hown howns hS3
    refine own_spV (q := 429) (S' := [(.ref b3)]) st3 ?_
    clear st3
    refine own_stV (T' := T3) (g' := (mkF m 431 #[iv i0, iv i1, iv i2, iv i3, iv i4, iv i5, rv ka, rv ra, rv kd, iv tv, iv rq, iv wh, iv hd, iv (0 : Int32), rv r1, rv r2, rv s16, rv s17, rv s18, rv v19, rv v20, rv v21, rv al, rv b3, .unset, .unset, .unset] [])) (fun _ k_ => XS.astore X3.here hx rfl (hb hby at_429) rfl rfl (l' := #[iv i0, iv i1, iv i2, iv i3, iv i4, iv i5, rv ka, rv ra, rv kd, iv tv, iv rq, iv wh, iv hd, iv (0 : Int32), rv r1, rv r2, rv s16, rv s17, rv s18, rv v19, rv v20, rv v21, rv al, rv b3, .unset, .unset, .unset]) rfl k_) ?_
    have f4 := E_s16.keep K3
    have f5 := E_s17.keep K3
    have f6 := own_ILk il1 K3
    have f7 := O0.keep K3 all0
    exact seg_F h0 T3.heap n0 i0 i1 i2 i3 i4 i5 ka ra kd tv rq wh hd (0 : Int32) r1 r2 s16 s17 s18 v19 v20 v21 al w_TEXT w_OPTION w_METHOD w_TARGET w_BODY w_TIME w_NONCE dA clD kO mir em el oe cz b3 el (1 : Int32) (fun h => True) (X3.mono (by decide) (by decide)) hx hZs hZ3 hS3 (Nat.le_refl _) hw hby hml howns hown3 hnm hret hlk rfl N3 f7 HBs f4 f5 X_r1 X_r2 hrq hwn hhd hT1 hT4 hkt_ fq3_0 fq3_1 fq3_2 fq3_3 fq3_4 fq3_5 (by rw [hwn.resolve_left hc2]; exact fq3_6) fq3_7 fq3_8 f6 (fun _ _ _ _ => trivial) trivial (fun p2 q_ h_ vm_ k_ T_ locs_ X_ hZ_ hown_ hS_ hk_ e_ N_ O_ F_q E_q L_ => by
      obtain ⟨-⟩ := L_
      exact seg_H0 h0 h_ n0 i0 i1 i2 i3 i4 i5 ka ra kd tv rq wh hd (0 : Int32) r1 r2 s16 s17 s18 v19 v20 v21 al w_TEXT w_OPTION w_METHOD w_TARGET w_BODY w_TIME w_NONCE dA clD kO mir em el oe cz p2 q_ X_ hx hZs hZ_ hS_ hk_ hw hby hml howns hown_ hnm hret hlk e_ N_ O_ HBs F_q E_q)
theorem pd__Ljava_lang_String_Lcom_example_countersign_countersign_Parameter_Kind_Ljava_lang_String__Lcom_example_countersign_countersign_Parameter_ : parseMethodDescriptor "(Ljava/lang/String;Lcom/example/countersign/countersign/Parameter$Kind;Ljava/lang/String;)Lcom/example/countersign/countersign/Parameter;" = some ⟨[(.object "java/lang/String"), (.object "com/example/countersign/countersign/Parameter$Kind"), (.object "java/lang/String")], some (.object "com/example/countersign/countersign/Parameter")⟩ := by decide +kernel
theorem seg_B0 (h0 : Heap) (hB : Heap) (n0 : Nat) (i0 : Int32) (i1 : Int32) (i2 : Int32) (i3 : Int32) (i4 : Int32) (i5 : Int32) (ka : Addr) (ra : Addr) (kd : Addr) (tv : Int32) (rq : Int32) (wh : Int32) (hd : Int32) (r1 : Addr) (r2 : Addr) (s16 : Addr) (s17 : Addr) (s18 : Addr) (v19 : Addr) (v20 : Addr) (v21 : Addr) (al : Addr) (w_TEXT : Addr) (w_OPTION : Addr) (w_METHOD : Addr) (w_TARGET : Addr) (w_BODY : Addr) (w_TIME : Addr) (w_NONCE : Addr) (dA : Addr) (clD : Cell) (kO : ClassId) (mir : Addr) (em : Addr) (el : Addr) (oe : Addr) (cz : Int32)
    (X0 : Stand p l e room_1 (s.setVm vm0) m args below meth c T0 locs 18 51) (hx : p.tables.exec = Jvm.exec) (hZs : Z.Warmed39 s.vm) (hZ : Z.Warmed39 (s.setVm vm0).vm) (hS0 : s.Since vm0 k0) (hk0 : k0 ≤ hB.size) (hw : own_HW a0 Z) (hby : c.code = code) (hml : c.maxLocals = 27) (howns : s.vm.findClass ks3 = some m.cls) (hown : (s.setVm vm0).vm.findClass ks3 = some m.cls) (hnm : meth.name = "law") (hret : meth.sig.returnType = some .boolean) (hlk : meth.locks = false) (e0 : T0.heap = hB) (N0 : Fr n0 locs) (O0 : Old Z n0 hB) (HBs : own_Bs Z w_TEXT w_OPTION w_METHOD w_TARGET w_BODY w_TIME w_NONCE dA clD kO mir em el oe cz) (E_s16 : Exa Z hB s16 ks10) (E_s17 : Exa Z hB s17 ks10) (X_r1 : Exa Z Z.heap r1 ks1) (X_r2 : Exa Z Z.heap r2 ks1) (hrq : own_B rq) (hwn : own_B wh) (hhd : own_B hd) (hT1 : ¬ wh = (0 : Int32) → kd = w_TEXT) (hT4 : ¬ hd = (0 : Int32) → kd = w_TEXT) (AL0 : Exa Z hB al ks6) (AL1 : Fld Z hB al ks6 ks20 ks8 (.ref dA)) (AL2 : Fld Z hB al ks6 "size" "I" (.int (0 : Int32))) (AL3 : Fld Z hB al ks17 "modCount" "I" (.int (0 : Int32))) (f_al : n0 ≤ al) :
    own_V p e below s room_1.cells room_1.slots (fun v h L _ => own_L n0 v h L) T0 (mkF m 335 #[iv i0, iv i1, iv i2, iv i3, iv i4, iv i5, rv ka, rv ra, rv kd, iv tv, iv rq, iv wh, iv hd, iv (0 : Int32), rv r1, rv r2, rv s16, rv s17, rv s18, rv v19, rv v20, rv v21, rv al, .unset, .unset, .unset, .unset] []) := by
  obtain ⟨S_TEXT, S_OPTION, X_OPTION, S_METHOD, X_METHOD, S_TARGET, X_TARGET, S_BODY, X_BODY, S_TIME, X_TIME, S_NONCE, X_NONCE, SDe, AD, LD, OV, FC, MIR, SEm, X_em, S_el, IL_el, S_oe, X_oe, F_oe, SC, hcz⟩ := id HBs
  refine own_stV (T' := T0) (g' := (mkF m 337 #[iv i0, iv i1, iv i2, iv i3, iv i4, iv i5, rv ka, rv ra, rv kd, iv tv, iv rq, iv wh, iv hd, iv (0 : Int32), rv r1, rv r2, rv s16, rv s17, rv s18, rv v19, rv v20, rv v21, rv al, .unset, .unset, .unset, .unset] [(.int (0 : Int32))])) (fun _ k_ => XS.iload X0.here hx rfl (hb hby at_335) rfl  k_) ?_
  refine own_spV (q := 338) (S' := [(.int (1 : Int32)), (.int (0 : Int32))]) (fun _ k_ => XS.iconst X0.here hx rfl (hb hby at_337) k_) ?_
  refine own_spV (q := 349) (S' := []) (fun _ k_ => XS.icmpYes X0.here hx rfl (pc0 := 338) (pc' := 349) rfl (hb hby at_338) rfl (tlt (by decide : (0 : Int32) < (1 : Int32))).1 (by decide) (by decide) k_) ?_
  refine own_spV (q := 351) (S' := [(.int (0 : Int32))]) (fun _ k_ => XS.iload X0.here hx rfl (hb hby at_349) rfl  k_) ?_
  refine own_spV (q := 352) (S' := [(.int (2 : Int32)), (.int (0 : Int32))]) (fun _ k_ => XS.iconst X0.here hx rfl (hb hby at_351) k_) ?_
  refine own_spV (q := 363) (S' := []) (fun _ k_ => XS.icmpYes X0.here hx rfl (pc0 := 352) (pc' := 363) rfl (hb hby at_352) rfl (tlt (by decide : (0 : Int32) < (2 : Int32))).1 (by decide) (by decide) k_) ?_
  refine own_spV (q := 365) (S' := [(.int (0 : Int32))]) (fun _ k_ => XS.iload X0.here hx rfl (hb hby at_363) rfl  k_) ?_
  refine own_spV (q := 366) (S' := [(.int (3 : Int32)), (.int (0 : Int32))]) (fun _ k_ => XS.iconst X0.here hx rfl (hb hby at_365) k_) ?_
  refine own_spV (q := 377) (S' := []) (fun _ k_ => XS.icmpYes X0.here hx rfl (pc0 := 366) (pc' := 377) rfl (hb hby at_366) rfl (tlt (by decide : (0 : Int32) < (3 : Int32))).1 (by decide) (by decide) k_) ?_
  refine own_spV (q := 379) (S' := [(.int rq)]) (fun _ k_ => XS.iload X0.here hx rfl (hb hby at_377) rfl  k_) ?_
  by_cases hc1 : rq = (0 : Int32)
  · refine own_spV (q := 394) (S' := []) (fun _ k_ => XS.ifYes X0.here hx rfl (pc0 := 379) (pc' := 394) rfl (hb hby at_379) rfl ((if0 _ _).trans (teq hc1).1) (by decide) (by decide) k_) ?_
    refine own_spV (q := 396) (S' := [(.ref s16)]) (fun _ k_ => XS.aload X0.here hx rfl (hb hby at_394) rfl rfl  k_) ?_
    refine own_spV (q := 398) (S' := [(.ref kd), (.ref s16)]) (fun _ k_ => XS.aload X0.here hx rfl (hb hby at_396) rfl rfl  k_) ?_
    refine own_spV (q := 400) (S' := [(.ref s17), (.ref kd), (.ref s16)]) (fun _ k_ => XS.aload X0.here hx rfl (hb hby at_398) rfl rfl  k_) ?_
    obtain ⟨_, T2, L2, X2, hS2, hW2, hQ2, st2⟩ := own_callSV (Z := Z) X0 hx (y := own_m51) hown (mvT hZ (wd hw 95 rfl)) (mvT hZ (wd hw 96 rfl)) (mvT hZ (wd hw 97 rfl)) (mvT hZ (wd hw 98 rfl)) (by decide) (own_backV (W := 0) (rm_mk_optional l Z a0 hw [] s16 kd s17 w_OPTION w_TEXT el oe hB n0 O0 S_el IL_el S_oe X_oe F_oe S_TEXT S_OPTION) hZ (wd hw 98 rfl) (wd hw 97 rfl) (by decide) (by decide) (fun _ _ => trivial)) (g := (mkF m 400 #[iv i0, iv i1, iv i2, iv i3, iv i4, iv i5, rv ka, rv ra, rv kd, iv tv, iv rq, iv wh, iv hd, iv (0 : Int32), rv r1, rv r2, rv s16, rv s17, rv s18, rv v19, rv v20, rv v21, rv al, .unset, .unset, .unset, .unset] [(.ref s17), (.ref kd), (.ref s16)])) rfl (by rw [hml]; rfl) (argsL := [(.ref s16), (.ref kd), (.ref s17)]) (rest := []) (lenOf pd__Ljava_lang_String_Lcom_example_countersign_countersign_Parameter_Kind_Ljava_lang_String__Lcom_example_countersign_countersign_Parameter_ rfl) rfl (by show 2 * 0 + _ ≤ _; exact Nat.le_of_eq rfl) (hb hby at_400) rfl e0 (by decide) (by decide) (c' := 29) (s' := 355) rfl rfl hS0 hk0
    obtain ⟨b2, rfl, Nq2, K2, fq2_0, fq2_1, fq2_2, fq2_3, fq2_4, fq2_5, fq2_6, fq2_7, fq2_8, xq2_fresh_b, wmq2⟩ := hQ2
    have N2 := Fr.app N0 Nq2
    have hZ2 : Z.Warmed39 (s.setVm T2.vm).vm := own_hZ hZs hS2
    have hown2 : (s.setVm T2.vm).vm.findClass ks3 = some m.cls := own_hown howns hS2
    refine own_spV (q := 403) (S' := [(.ref b2)]) st2 ?_
    clear st2
    refine own_stV (T' := T2) (g' := (mkF m 405 #[iv i0, iv i1, iv i2, iv i3, iv i4, iv i5, rv ka, rv ra, rv kd, iv tv, iv rq, iv wh, iv hd, iv (0 : Int32), rv r1, rv r2, rv s16, rv s17, rv s18, rv v19, rv v20, rv v21, rv al, rv b2, .unset, .unset, .unset] [])) (fun _ k_ => XS.astore X2.here hx rfl (hb hby at_403) rfl rfl (l' := #[iv i0, iv i1, iv i2, iv i3, iv i4, iv i5, rv ka, rv ra, rv kd, iv tv, iv rq, iv wh, iv hd, iv (0 : Int32), rv r1, rv r2, rv s16, rv s17, rv s18, rv v19, rv v20, rv v21, rv al, rv b2, .unset, .unset, .unset]) rfl k_) ?_
    have f3 := E_s16.keep K2
    have f4 := E_s17.keep K2
    have f5 := O0.keep K2 all0
    exact seg_C0 h0 T2.heap n0 i0 i1 i2 i3 i4 i5 ka ra kd tv rq wh hd r1 r2 s16 s17 s18 v19 v20 v21 al w_TEXT w_OPTION w_METHOD w_TARGET w_BODY w_TIME w_NONCE dA clD kO mir em el oe cz b2 (X2.mono (by decide) (by decide)) hx hZs hZ2 hS2 (Nat.le_refl _) hw hby hml howns hown2 hnm hret hlk rfl N2 f5 HBs f3 f4 X_r1 X_r2 hrq hwn hhd hT1 hT4 fq2_0 fq2_1 fq2_2 (by rw [hc1]; exact fq2_3) fq2_4 fq2_5 fq2_6 fq2_7 fq2_8
  · refine own_spV (q := 382) (S' := []) (fun _ k_ => XS.ifNo X0.here hx rfl (hb hby at_379) rfl ((if0 _ _).trans (feq hc1).1) k_) ?_
    refine own_spV (q := 384) (S' := [(.ref s16)]) (fun _ k_ => XS.aload X0.here hx rfl (hb hby at_382) rfl rfl  k_) ?_
    refine own_spV (q := 386) (S' := [(.ref kd), (.ref s16)]) (fun _ k_ => XS.aload X0.here hx rfl (hb hby at_384) rfl rfl  k_) ?_
    refine own_spV (q := 388) (S' := [(.ref s17), (.ref kd), (.ref s16)]) (fun _ k_ => XS.aload X0.here hx rfl (hb hby at_386) rfl rfl  k_) ?_
    obtain ⟨_, T6, L6, X6, hS6, hW6, hQ6, st6⟩ := own_callSV (Z := Z) X0 hx (y := own_m52) hown (mvT hZ (wd hw 249 rfl)) (mvT hZ (wd hw 250 rfl)) (mvT hZ (wd hw 97 rfl)) (mvT hZ (wd hw 251 rfl)) (by decide) (own_backV (W := 0) (rm_mk_required l Z a0 hw [] s16 kd s17 w_OPTION w_TEXT el oe hB n0 O0 S_el IL_el S_oe X_oe F_oe S_TEXT S_OPTION) hZ (wd hw 251 rfl) (wd hw 97 rfl) (by decide) (by decide) (fun _ _ => trivial)) (g := (mkF m 388 #[iv i0, iv i1, iv i2, iv i3, iv i4, iv i5, rv ka, rv ra, rv kd, iv tv, iv rq, iv wh, iv hd, iv (0 : Int32), rv r1, rv r2, rv s16, rv s17, rv s18, rv v19, rv v20, rv v21, rv al, .unset, .unset, .unset, .unset] [(.ref s17), (.ref kd), (.ref s16)])) rfl (by rw [hml]; rfl) (argsL := [(.ref s16), (.ref kd), (.ref s17)]) (rest := []) (lenOf pd__Ljava_lang_String_Lcom_example_countersign_countersign_Parameter_Kind_Ljava_lang_String__Lcom_example_countersign_countersign_Parameter_ rfl) rfl (by show 2 * 0 + _ ≤ _; exact Nat.le_of_eq rfl) (hb hby at_388) rfl e0 (by decide) (by decide) (c' := 29) (s' := 355) rfl rfl hS0 hk0
    obtain ⟨b6, rfl, Nq6, K6, fq6_0, fq6_1, fq6_2, fq6_3, fq6_4, fq6_5, fq6_6, fq6_7, fq6_8, xq6_fresh_b, wmq6⟩ := hQ6
    have N6 := Fr.app N0 Nq6
    have hZ6 : Z.Warmed39 (s.setVm T6.vm).vm := own_hZ hZs hS6
    have hown6 : (s.setVm T6.vm).vm.findClass ks3 = some m.cls := own_hown howns hS6
    refine own_spV (q := 391) (S' := [(.ref b6)]) st6 ?_
    clear st6
    refine own_spV (q := 403) (S' := [(.ref b6)]) (fun _ k_ => XS.goto X6.here hx rfl (pc0 := 391) (pc' := 403) rfl (hb hby at_391) (by decide) (by decide) k_) ?_
    refine own_stV (T' := T6) (g' := (mkF m 405 #[iv i0, iv i1, iv i2, iv i3, iv i4, iv i5, rv ka, rv ra, rv kd, iv tv, iv rq, iv wh, iv hd, iv (0 : Int32), rv r1, rv r2, rv s16, rv s17, rv s18, rv v19, rv v20, rv v21, rv al, rv b6, .unset, .unset, .unset] [])) (fun _ k_ => XS.astore X6.here hx rfl (hb hby at_403) rfl rfl (l' := #[iv i0, iv i1, iv i2, iv i3, iv i4, iv i5, rv ka, rv ra, rv kd, iv tv, iv rq, iv wh, iv hd, iv (0 : Int32), rv r1, rv r2, rv s16, rv s17, rv s18, rv v19, rv v20, rv v21, rv al, rv b6, .unset, .unset, .unset]) rfl k_) ?_
    have f7 := E_s16.keep K6
    have f8 := E_s17.keep K6
    have f9 := O0.keep K6 all0
    exact seg_C0 h0 T6.heap n0 i0 i1 i2 i3 i4 i5 ka ra kd tv rq wh hd r1 r2 s16 s17 s18 v19 v20 v21 al w_TEXT w_OPTION w_METHOD w_TARGET w_BODY w_TIME w_NONCE dA clD kO mir em el oe cz b6 (X6.mono (by decide) (by decide)) hx hZs hZ6 hS6 (Nat.le_refl _) hw hby hml howns hown6 hnm hret hlk rfl N6 f9 HBs f7 f8 X_r1 X_r2 hrq hwn hhd hT1 hT4 fq6_0 fq6_1 fq6_2 (by rw [hrq.resolve_left hc1]; exact fq6_3) fq6_4 fq6_5 fq6_6 fq6_7 fq6_8
theorem pd__Ljava_util_List__Lcom_example_countersign_countersign_Parameter_ : parseMethodDescriptor "(Ljava/util/List;)Lcom/example/countersign/countersign/Parameter;" = some ⟨[(.object "java/util/List")], some (.object "com/example/countersign/countersign/Parameter")⟩ := by decide +kernel
theorem seg_C1 (h0 : Heap) (hB : Heap) (n0 : Nat) (i0 : Int32) (i1 : Int32) (i2 : Int32) (i3 : Int32) (i4 : Int32) (i5 : Int32) (ka : Addr) (ra : Addr) (kd : Addr) (tv : Int32) (rq : Int32) (wh : Int32) (hd : Int32) (r1 : Addr) (r2 : Addr) (s16 : Addr) (s17 : Addr) (s18 : Addr) (v19 : Addr) (v20 : Addr) (v21 : Addr) (al : Addr) (w_TEXT : Addr) (w_OPTION : Addr) (w_METHOD : Addr) (w_TARGET : Addr) (w_BODY : Addr) (w_TIME : Addr) (w_NONCE : Addr) (dA : Addr) (clD : Cell) (kO : ClassId) (mir : Addr) (em : Addr) (el : Addr) (oe : Addr) (cz : Int32) (p_ : Addr) (t : Addr) (mc : Int32)
    (X0 : Stand p l e room_1 (s.setVm vm0) m args below meth c T0 locs 30 376) (hx : p.tables.exec = Jvm.exec) (hZs : Z.Warmed39 s.vm) (hZ : Z.Warmed39 (s.setVm vm0).vm) (hS0 : s.Since vm0 k0) (hk0 : k0 ≤ hB.size) (hw : own_HW a0 Z) (hby : c.code = code) (hml : c.maxLocals = 27) (howns : s.vm.findClass ks3 = some m.cls) (hown : (s.setVm vm0).vm.findClass ks3 = some m.cls) (hnm : meth.name = "law") (hret : meth.sig.returnType = some .boolean) (hlk : meth.locks = false) (e0 : T0.heap = hB) (N0 : Fr n0 locs) (O0 : Old Z n0 hB) (HBs : own_Bs Z w_TEXT w_OPTION w_METHOD w_TARGET w_BODY w_TIME w_NONCE dA clD kO mir em el oe cz) (E_s16 : Exa Z hB s16 ks10) (E_s17 : Exa Z hB s17 ks10) (E_v19 : Exa Z hB v19 ks10) (X_r1 : Exa Z Z.heap r1 ks1) (X_r2 : Exa Z Z.heap r2 ks1) (hrq : own_B rq) (hwn : own_B wh) (hhd : own_B hd) (hT1 : ¬ wh = (0 : Int32) → kd = w_TEXT) (hT4 : ¬ hd = (0 : Int32) → kd = w_TEXT) (hk1 : kd = w_TEXT) (PP0 : Exa Z hB p_ ks0) (PP1 : Fld Z hB p_ ks0 "name" ks13 (.ref s16)) (PP2 : Fld Z hB p_ ks0 "kind" ks5 (.ref kd)) (PP3 : Fld Z hB p_ ks0 ks23 "Z" (.int rq)) (PP4 : Fld Z hB p_ ks0 ks21 ks13 (.ref s17)) (PP5 : Fld Z hB p_ ks0 "choices" ks16 (.ref el)) (PP6 : Fld Z hB p_ ks0 ks22 "Z" (.int (0 : Int32))) (PP7 : Fld Z hB p_ ks0 "role" ks7 (.ref w_OPTION)) (PP8 : Fld Z hB p_ ks0 "header" ks15 (.ref oe)) (AL0 : Exa Z hB al ks6) (AL1 : Fld Z hB al ks6 ks20 ks8 (.ref t)) (AL2 : Fld Z hB al ks6 "size" "I" (.int (1 : Int32))) (AL3 : Fld Z hB al ks17 "modCount" "I" (.int mc)) (AL4 : Arv Z hB t kO (.object ks2) (10 : Int32) [(.ref v19), .null, .null, .null, .null, .null, .null, .null, .null, .null] .null) :
    own_V p e below s room_1.cells room_1.slots (fun v h L _ => own_L n0 v h L) T0 (mkF m 405 #[iv i0, iv i1, iv i2, iv i3, iv i4, iv i5, rv ka, rv ra, rv kd, iv tv, iv rq, iv wh, iv hd, iv (1 : Int32), rv r1, rv r2, rv s16, rv s17, rv s18, rv v19, rv v20, rv v21, rv al, rv p_, .unset, .unset, .unset] []) := by
  obtain ⟨S_TEXT, S_OPTION, X_OPTION, S_METHOD, X_METHOD, S_TARGET, X_TARGET, S_BODY, X_BODY, S_TIME, X_TIME, S_NONCE, X_NONCE, SDe, AD, LD, OV, FC, MIR, SEm, X_em, S_el, IL_el, S_oe, X_oe, F_oe, SC, hcz⟩ := id HBs
  refine own_stV (T' := T0) (g' := (mkF m 407 #[iv i0, iv i1, iv i2, iv i3, iv i4, iv i5, rv ka, rv ra, rv kd, iv tv, iv rq, iv wh, iv hd, iv (1 : Int32), rv r1, rv r2, rv s16, rv s17, rv s18, rv v19, rv v20, rv v21, rv al, rv p_, .unset, .unset, .unset] [(.int (1 : Int32))])) (fun _ k_ => XS.iload X0.here hx rfl (hb hby at_405) rfl  k_) ?_
  refine own_spV (q := 410) (S' := []) (fun _ k_ => XS.ifNo X0.here hx rfl (hb hby at_407) rfl ((if0 _ _).trans (tlt (by decide : (0 : Int32) < (1 : Int32))).2.2.2) k_) ?_
  refine own_spV (q := 412) (S' := [(.ref p_)]) (fun _ k_ => XS.aload X0.here hx rfl (hb hby at_410) rfl rfl  k_) ?_
  refine own_spV (q := 414) (S' := [(.ref al), (.ref p_)]) (fun _ k_ => XS.aload X0.here hx rfl (hb hby at_412) rfl rfl  k_) ?_
  obtain ⟨cq1, kq1, q1a, q1b, q1c⟩ := isOf hZ e0 PP0
  obtain ⟨_, T1, L1, X1, hS1, hW1, hQ1, st1⟩ := own_callVV (Z := Z) X0 hx (y := own_m50) (z := own_m50) hown (mvT hZ (wd hw 283 rfl)) (mvT hZ (wd hw 284 rfl)) (notFace_of_selects (args := #[]) (mvT hZ (wd hw 286 rfl))) (mvT hZ (wd hw 286 rfl)) (mvT hZ (wd hw 285 rfl)) (by decide) (own_backV (W := 0) (rm_wch l Z a0 hw [] p_ s16 kd rq s17 (0 : Int32) w_OPTION oe .null w_TEXT al (own_LQ1 Z kO v19 em) hB n0 O0 PP1 PP2 PP3 PP4 PP6 PP7 PP8 (X_oe.ext O0.2) (F_oe.ext O0.2) rfl hrq (Or.inl rfl) (fun q => absurd rfl q) (fun q => absurd rfl q) S_TEXT hk1 (own_CP1 hw AL0 AL1 AL2 AL4 OV FC MIR SEm (Ins.of_exa E_v19 (wd hw 282 rfl))) own_LQC1) hZ (wd hw 287 rfl) (wd hw 97 rfl) (by decide) (by decide) (fun _ _ => trivial)) q1a q1c (g := (mkF m 414 #[iv i0, iv i1, iv i2, iv i3, iv i4, iv i5, rv ka, rv ra, rv kd, iv tv, iv rq, iv wh, iv hd, iv (1 : Int32), rv r1, rv r2, rv s16, rv s17, rv s18, rv v19, rv v20, rv v21, rv al, rv p_, .unset, .unset, .unset] [(.ref al), (.ref p_)])) rfl (by rw [hml]; rfl) (argsL := [(.ref al)]) (rest := []) (lenOf pd__Ljava_util_List__Lcom_example_countersign_countersign_Parameter_ rfl) rfl (by show 2 * 0 + _ ≤ _; exact Nat.le_of_eq rfl) (hb hby at_414) rfl e0 (by decide) (by decide) (c' := 44) (s' := 694) rfl rfl hS0 hk0
  clear q1a q1b q1c kq1 cq1
  obtain ⟨b1, x1, rfl, Nq1, K1, fq1_0, fq1_1, fq1_2, fq1_3, fq1_4, fq1_5, fq1_6, fq1_7, fq1_8, xq1_fresh_b, xq1_LQx, wmq1⟩ := hQ1
  have N1 := Fr.app N0 Nq1
  have hZ1 : Z.Warmed39 (s.setVm T1.vm).vm := own_hZ hZs hS1
  have hown1 : (s.setVm T1.vm).vm.findClass ks3 = some m.cls := own_hown howns hS1
  refine own_spV (q := 417) (S' := [(.ref b1)]) st1 ?_
  clear st1
  obtain ⟨lq1_0, lq1_1, lq1_2, -⟩ := id xq1_LQx
  refine own_stV (T' := T1) (g' := (mkF m 419 #[iv i0, iv i1, iv i2, iv i3, iv i4, iv i5, rv ka, rv ra, rv kd, iv tv, iv rq, iv wh, iv hd, iv (1 : Int32), rv r1, rv r2, rv s16, rv s17, rv s18, rv v19, rv v20, rv v21, rv al, rv b1, .unset, .unset, .unset] [])) (fun _ k_ => XS.astore X1.here hx rfl (hb hby at_417) rfl rfl (l' := #[iv i0, iv i1, iv i2, iv i3, iv i4, iv i5, rv ka, rv ra, rv kd, iv tv, iv rq, iv wh, iv hd, iv (1 : Int32), rv r1, rv r2, rv s16, rv s17, rv s18, rv v19, rv v20, rv v21, rv al, rv b1, .unset, .unset, .unset]) rfl k_) ?_
  have il2 : own_IL Z T1.heap x1 (0 : Int32) := (Or.inl ⟨lq1_0, rfl⟩)
  have hkt_ : (0 : Int32) = (0 : Int32) → kd = w_TEXT := fun _ => hk1
  refine own_spV (q := 421) (S' := [(.int wh)]) (fun _ k_ => XS.iload X1.here hx rfl (hb hby at_419) rfl  k_) ?_
  by_cases hc3 : wh = (0 : Int32)
  · refine own_spV (q := 431) (S' := []) (fun _ k_ => XS.ifYes X1.here hx rfl (pc0 := 421) (pc' := 431) rfl (hb hby at_421) rfl ((if0 _ _).trans (teq hc3).1) (by decide) (by decide) k_) ?_
    have f4 := E_v19.keep K1
    have f5 := E_s16.keep K1
    have f6 := E_s17.keep K1
    have f7 := O0.keep K1 all0
    exact seg_F h0 T1.heap n0 i0 i1 i2 i3 i4 i5 ka ra kd tv rq wh hd (1 : Int32) r1 r2 s16 s17 s18 v19 v20 v21 al w_TEXT w_OPTION w_METHOD w_TARGET w_BODY w_TIME w_NONCE dA clD kO mir em el oe cz b1 x1 (0 : Int32) (fun h => (Exa Z h v19 ks10) ∧ (Exa Z h x1 ks4) ∧ (Fld Z h x1 ks4 "e0" ks12 (.ref v19)) ∧ (Fld Z h x1 ks4 "e1" ks12 (.ref em)) ∧ True) (X1.mono (by decide) (by decide)) hx hZs hZ1 hS1 (Nat.le_refl _) hw hby hml howns hown1 hnm hret hlk rfl N1 f7 HBs f5 f6 X_r1 X_r2 hrq hwn hhd hT1 hT4 hkt_ fq1_0 fq1_1 fq1_2 fq1_3 fq1_4 fq1_5 (by rw [hc3]; exact fq1_6) fq1_7 fq1_8 il2 (fun h_ h1_ E_ q_ => by obtain ⟨q0_, q1_, q2_, q3_, -⟩ := q_; exact ⟨q0_.ext E_, q1_.ext E_, q2_.ext E_, q3_.ext E_, trivial⟩) ⟨f4, lq1_0, lq1_1, lq1_2, trivial⟩ (fun p2 q_ h_ vm_ k_ T_ locs_ X_ hZ_ hown_ hS_ hk_ e_ N_ O_ F_q E_q L_ => by
      obtain ⟨L0_, L1_, L2_, L3_, -⟩ := L_
      exact seg_H1 h0 h_ n0 i0 i1 i2 i3 i4 i5 ka ra kd tv rq wh hd (1 : Int32) r1 r2 s16 s17 s18 v19 v20 v21 al w_TEXT w_OPTION w_METHOD w_TARGET w_BODY w_TIME w_NONCE dA clD kO mir em el oe cz p2 q_ x1 X_ hx hZs hZ_ hS_ hk_ hw hby hml howns hown_ hnm hret hlk e_ N_ O_ HBs L0_ F_q E_q L1_ L2_ L3_)
  · refine own_spV (q := 424) (S' := []) (fun _ k_ => XS.ifNo X1.here hx rfl (hb hby at_421) rfl ((if0 _ _).trans (feq hc3).1) k_) ?_
    refine own_spV (q := 426) (S' := [(.ref b1)]) (fun _ k_ => XS.aload X1.here hx rfl (hb hby at_424) rfl rfl  k_) ?_
    have f8 := O0.keep K1 all0
    obtain ⟨cq9, kq9, q9a, q9b, q9c⟩ := isOf hZ1 rfl fq1_0
    obtain ⟨_, T9, L9, X9, hS9, hW9, hQ9, st9⟩ := own_callVV (Z := Z) X1 hx (y := own_m48) (z := own_m48) hown1 (mvT hZ1 (wd hw 367 rfl)) (mvT hZ1 (wd hw 368 rfl)) (notFace_of_selects (args := #[]) (mvT hZ1 (wd hw 370 rfl))) (mvT hZ1 (wd hw 370 rfl)) (mvT hZ1 (wd hw 369 rfl)) (by decide) (own_backV (W := 0) (rm_whn l Z a0 hw [] b1 s16 kd rq s17 w_OPTION oe .null w_TEXT x1 (0 : Int32) T1.heap n0 f8 fq1_1 fq1_2 fq1_3 fq1_4 fq1_5 fq1_6 fq1_7 fq1_8 (X_oe.ext f8.2) (F_oe.ext f8.2) rfl hrq (hT1 hc3) (fun q => absurd rfl q) S_TEXT il2 hkt_) hZ1 (wd hw 371 rfl) (wd hw 97 rfl) (by decide) (by decide) (fun _ _ => trivial)) q9a q9c (g := (mkF m 426 #[iv i0, iv i1, iv i2, iv i3, iv i4, iv i5, rv ka, rv ra, rv kd, iv tv, iv rq, iv wh, iv hd, iv (1 : Int32), rv r1, rv r2, rv s16, rv s17, rv s18, rv v19, rv v20, rv v21, rv al, rv b1, .unset, .unset, .unset] [(.ref b1)])) rfl (by rw [hml]; rfl) (argsL := []) (rest := []) (lenOf pd___Lcom_example_countersign_countersign_Parameter_ rfl) rfl (by show 2 * 0 + _ ≤ _; exact Nat.le_of_eq rfl) (hb hby at_426) rfl rfl (by decide) (by decide) (c' := 55) (s' := 998) rfl rfl hS1 (Nat.le_refl _)
    clear q9a q9b q9c kq9 cq9
    obtain ⟨b9, rfl, Nq9, K9, fq9_0, fq9_1, fq9_2, fq9_3, fq9_4, fq9_5, fq9_6, fq9_7, fq9_8, xq9_fresh_b, wmq9⟩ := hQ9
    have N9 := Fr.app N1 Nq9
    have hZ9 : Z.Warmed39 (s.setVm T9.vm).vm := own_hZ hZs hS9
    have hown9 : (s.setVm T9.vm).vm.findClass ks3 = some m.cls := own_hown howns hS9
    refine own_spV (q := 429) (S' := [(.ref b9)]) st9 ?_
    clear st9
    refine own_stV (T' := T9) (g' := (mkF m 431 #[iv i0, iv i1, iv i2, iv i3, iv i4, iv i5, rv ka, rv ra, rv kd, iv tv, iv rq, iv wh, iv hd, iv (1 : Int32), rv r1, rv r2, rv s16, rv s17, rv s18, rv v19, rv v20, rv v21, rv al, rv b9, .unset, .unset, .unset] [])) (fun _ k_ => XS.astore X9.here hx rfl (hb hby at_429) rfl rfl (l' := #[iv i0, iv i1, iv i2, iv i3, iv i4, iv i5, rv ka, rv ra, rv kd, iv tv, iv rq, iv wh, iv hd, iv (1 : Int32), rv r1, rv r2, rv s16, rv s17, rv s18, rv v19, rv v20, rv v21, rv al, rv b9, .unset, .unset, .unset]) rfl k_) ?_
    have f10 := E_v19.keep K1
    have f11 := f10.keep K9
    have f12 := lq1_0.keep K9
    have f13 := lq1_1.keep K9 nin0
    have f14 := lq1_2.keep K9 nin0
    have f15 := E_s16.keep K1
    have f16 := f15.keep K9
    have f17 := E_s17.keep K1
    have f18 := f17.keep K9
    have f19 := own_ILk il2 K9
    have f20 := f8.keep K9 all0
    exact seg_F h0 T9.heap n0 i0 i1 i2 i3 i4 i5 ka ra kd tv rq wh hd (1 : Int32) r1 r2 s16 s17 s18 v19 v20 v21 al w_TEXT w_OPTION w_METHOD w_TARGET w_BODY w_TIME w_NONCE dA clD kO mir em el oe cz b9 x1 (0 : Int32) (fun h => (Exa Z h v19 ks10) ∧ (Exa Z h x1 ks4) ∧ (Fld Z h x1 ks4 "e0" ks12 (.ref v19)) ∧ (Fld Z h x1 ks4 "e1" ks12 (.ref em)) ∧ True) (X9.mono (by decide) (by decide)) hx hZs hZ9 hS9 (Nat.le_refl _) hw hby hml howns hown9 hnm hret hlk rfl N9 f20 HBs f16 f18 X_r1 X_r2 hrq hwn hhd hT1 hT4 hkt_ fq9_0 fq9_1 fq9_2 fq9_3 fq9_4 fq9_5 (by rw [hwn.resolve_left hc3]; exact fq9_6) fq9_7 fq9_8 f19 (fun h_ h1_ E_ q_ => by obtain ⟨q0_, q1_, q2_, q3_, -⟩ := q_; exact ⟨q0_.ext E_, q1_.ext E_, q2_.ext E_, q3_.ext E_, trivial⟩) ⟨f11, f12, f13, f14, trivial⟩ (fun p2 q_ h_ vm_ k_ T_ locs_ X_ hZ_ hown_ hS_ hk_ e_ N_ O_ F_q E_q L_ => by
      obtain ⟨L0_, L1_, L2_, L3_, -⟩ := L_
      exact seg_H1 h0 h_ n0 i0 i1 i2 i3 i4 i5 ka ra kd tv rq wh hd (1 : Int32) r1 r2 s16 s17 s18 v19 v20 v21 al w_TEXT w_OPTION w_METHOD w_TARGET w_BODY w_TIME w_NONCE dA clD kO mir em el oe cz p2 q_ x1 X_ hx hZs hZ_ hS_ hk_ hw hby hml howns hown_ hnm hret hlk e_ N_ O_ HBs L0_ F_q E_q L1_ L2_ L3_)
theorem seg_B1 (h0 : Heap) (hB : Heap) (n0 : Nat) (i0 : Int32) (i1 : Int32) (i2 : Int32) (i3 : Int32) (i4 : Int32) (i5 : Int32) (ka : Addr) (ra : Addr) (kd : Addr) (tv : Int32) (rq : Int32) (wh : Int32) (hd : Int32) (r1 : Addr) (r2 : Addr) (s16 : Addr) (s17 : Addr) (s18 : Addr) (v19 : Addr) (v20 : Addr) (v21 : Addr) (al : Addr) (w_TEXT : Addr) (w_OPTION : Addr) (w_METHOD : Addr) (w_TARGET : Addr) (w_BODY : Addr) (w_TIME : Addr) (w_NONCE : Addr) (dA : Addr) (clD : Cell) (kO : ClassId) (mir : Addr) (em : Addr) (el : Addr) (oe : Addr) (cz : Int32)
    (X0 : Stand p l e room_1 (s.setVm vm0) m args below meth c T0 locs 18 51) (hx : p.tables.exec = Jvm.exec) (hZs : Z.Warmed39 s.vm) (hZ : Z.Warmed39 (s.setVm vm0).vm) (hS0 : s.Since vm0 k0) (hk0 : k0 ≤ hB.size) (hw : own_HW a0 Z) (hby : c.code = code) (hml : c.maxLocals = 27) (howns : s.vm.findClass ks3 = some m.cls) (hown : (s.setVm vm0).vm.findClass ks3 = some m.cls) (hnm : meth.name = "law") (hret : meth.sig.returnType = some .boolean) (hlk : meth.locks = false) (e0 : T0.heap = hB) (N0 : Fr n0 locs) (O0 : Old Z n0 hB) (HBs : own_Bs Z w_TEXT w_OPTION w_METHOD w_TARGET w_BODY w_TIME w_NONCE dA clD kO mir em el oe cz) (E_s16 : Exa Z hB s16 ks10) (E_s17 : Exa Z hB s17 ks10) (E_v19 : Exa Z hB v19 ks10) (X_r1 : Exa Z Z.heap r1 ks1) (X_r2 : Exa Z Z.heap r2 ks1) (hrq : own_B rq) (hwn : own_B wh) (hhd : own_B hd) (hT1 : ¬ wh = (0 : Int32) → kd = w_TEXT) (hT4 : ¬ hd = (0 : Int32) → kd = w_TEXT) (hk1 : kd = w_TEXT) (AL0 : Exa Z hB al ks6) (AL1 : Fld Z hB al ks6 ks20 ks8 (.ref dA)) (AL2 : Fld Z hB al ks6 "size" "I" (.int (0 : Int32))) (AL3 : Fld Z hB al ks17 "modCount" "I" (.int (0 : Int32))) (f_al : n0 ≤ al) :
    own_V p e below s room_1.cells room_1.slots (fun v h L _ => own_L n0 v h L) T0 (mkF m 335 #[iv i0, iv i1, iv i2, iv i3, iv i4, iv i5, rv ka, rv ra, rv kd, iv tv, iv rq, iv wh, iv hd, iv (1 : Int32), rv r1, rv r2, rv s16, rv s17, rv s18, rv v19, rv v20, rv v21, rv al, .unset, .unset, .unset, .unset] []) := by
  obtain ⟨S_TEXT, S_OPTION, X_OPTION, S_METHOD, X_METHOD, S_TARGET, X_TARGET, S_BODY, X_BODY, S_TIME, X_TIME, S_NONCE, X_NONCE, SDe, AD, LD, OV, FC, MIR, SEm, X_em, S_el, IL_el, S_oe, X_oe, F_oe, SC, hcz⟩ := id HBs
  refine own_stV (T' := T0) (g' := (mkF m 337 #[iv i0, iv i1, iv i2, iv i3, iv i4, iv i5, rv ka, rv ra, rv kd, iv tv, iv rq, iv wh, iv hd, iv (1 : Int32), rv r1, rv r2, rv s16, rv s17, rv s18, rv v19, rv v20, rv v21, rv al, .unset, .unset, .unset, .unset] [(.int (1 : Int32))])) (fun _ k_ => XS.iload X0.here hx rfl (hb hby at_335) rfl  k_) ?_
  refine own_spV (q := 338) (S' := [(.int (1 : Int32)), (.int (1 : Int32))]) (fun _ k_ => XS.iconst X0.here hx rfl (hb hby at_337) k_) ?_
  refine own_spV (q := 341) (S' := []) (fun _ k_ => XS.icmpNo X0.here hx rfl (hb hby at_338) rfl (flt (by decide : ¬ ((1 : Int32) < (1 : Int32)))).1 k_) ?_
  refine own_spV (q := 343) (S' := [(.ref al)]) (fun _ k_ => XS.aload X0.here hx rfl (hb hby at_341) rfl rfl  k_) ?_
  refine own_spV (q := 345) (S' := [(.ref v19), (.ref al)]) (fun _ k_ => XS.aload X0.here hx rfl (hb hby at_343) rfl rfl  k_) ?_
  refine own_kcV own_ckV X0 hx hZ hown hml (y := own_m16) (wd hw 252 rfl) (wd hw 253 rfl) (wd hw 255 rfl) (wd hw 254 rfl) (wd hw 73 rfl) (wd hw 256 rfl) (by decide) AL0 (rm_add_0 l Z a0 hw [] al v19 (0 : Int32) dA clD kO hB n0 O0 AL0 AL1 AL2 AL3 f_al SDe AD LD OV FC (Ins.of_exa E_v19 (wd hw 282 rfl))) (by decide) (by decide) (W := 0) (Nat.le_of_eq rfl) (argsL := [(.ref v19)]) (rest := []) (lenOf pd__Ljava_lang_Object__Z rfl) rfl rfl (hb hby at_345) rfl e0 (by decide) (by decide) (c' := 19) (s' := 61) rfl rfl (q := 348) rfl fun _ T1 L1 X1 hQ1 => ?_
  obtain ⟨t1, rfl, Nq1, K1, fq1_0, fq1_1, fq1_2, fq1_3, fq1_4, xq1_fresh_t⟩ := hQ1
  have N1 := Fr.app N0 Nq1
  show own_V p e below s _ _ _ T1 (mkF m 348 _ [(.int (1 : Int32))])
  refine own_spV (q := 349) (S' := []) (fun _ k_ => XS.pop X1.here hx rfl (hb hby at_348) rfl rfl k_) ?_
  refine own_spV (q := 351) (S' := [(.int (1 : Int32))]) (fun _ k_ => XS.iload X1.here hx rfl (hb hby at_349) rfl  k_) ?_
  refine own_spV (q := 352) (S' := [(.int (2 : Int32)), (.int (1 : Int32))]) (fun _ k_ => XS.iconst X1.here hx rfl (hb hby at_351) k_) ?_
  refine own_spV (q := 363) (S' := []) (fun _ k_ => XS.icmpYes X1.here hx rfl (pc0 := 352) (pc' := 363) rfl (hb hby at_352) rfl (tlt (by decide : (1 : Int32) < (2 : Int32))).1 (by decide) (by decide) k_) ?_
  refine own_spV (q := 365) (S' := [(.int (1 : Int32))]) (fun _ k_ => XS.iload X1.here hx rfl (hb hby at_363) rfl  k_) ?_
  refine own_spV (q := 366) (S' := [(.int (3 : Int32)), (.int (1 : Int32))]) (fun _ k_ => XS.iconst X1.here hx rfl (hb hby at_365) k_) ?_
  refine own_spV (q := 377) (S' := []) (fun _ k_ => XS.icmpYes X1.here hx rfl (pc0 := 366) (pc' := 377) rfl (hb hby at_366) rfl (tlt (by decide : (1 : Int32) < (3 : Int32))).1 (by decide) (by decide) k_) ?_
  refine own_spV (q := 379) (S' := [(.int rq)]) (fun _ k_ => XS.iload X1.here hx rfl (hb hby at_377) rfl  k_) ?_
  by_cases hc2 : rq = (0 : Int32)
  · refine own_spV (q := 394) (S' := []) (fun _ k_ => XS.ifYes X1.here hx rfl (pc0 := 379) (pc' := 394) rfl (hb hby at_379) rfl ((if0 _ _).trans (teq hc2).1) (by decide) (by decide) k_) ?_
    refine own_spV (q := 396) (S' := [(.ref s16)]) (fun _ k_ => XS.aload X1.here hx rfl (hb hby at_394) rfl rfl  k_) ?_
    refine own_spV (q := 398) (S' := [(.ref kd), (.ref s16)]) (fun _ k_ => XS.aload X1.here hx rfl (hb hby at_396) rfl rfl  k_) ?_
    refine own_spV (q := 400) (S' := [(.ref s17), (.ref kd), (.ref s16)]) (fun _ k_ => XS.aload X1.here hx rfl (hb hby at_398) rfl rfl  k_) ?_
    have f3 := O0.keep K1 (allS f_al all0)
    obtain ⟨_, T4, L4, X4, hS4, hW4, hQ4, st4⟩ := own_callSV (Z := Z) X1 hx (y := own_m51) hown (mvT hZ (wd hw 95 rfl)) (mvT hZ (wd hw 96 rfl)) (mvT hZ (wd hw 97 rfl)) (mvT hZ (wd hw 98 rfl)) (by decide) (own_backV (W := 0) (rm_mk_optional l Z a0 hw [] s16 kd s17 w_OPTION w_TEXT el oe T1.heap n0 f3 S_el IL_el S_oe X_oe F_oe S_TEXT S_OPTION) hZ (wd hw 98 rfl) (wd hw 97 rfl) (by decide) (by decide) (fun _ _ => trivial)) (g := (mkF m 400 #[iv i0, iv i1, iv i2, iv i3, iv i4, iv i5, rv ka, rv ra, rv kd, iv tv, iv rq, iv wh, iv hd, iv (1 : Int32), rv r1, rv r2, rv s16, rv s17, rv s18, rv v19, rv v20, rv v21, rv al, .unset, .unset, .unset, .unset] [(.ref s17), (.ref kd), (.ref s16)])) rfl (by rw [hml]; rfl) (argsL := [(.ref s16), (.ref kd), (.ref s17)]) (rest := []) (lenOf pd__Ljava_lang_String_Lcom_example_countersign_countersign_Parameter_Kind_Ljava_lang_String__Lcom_example_countersign_countersign_Parameter_ rfl) rfl (by show 2 * 0 + _ ≤ _; exact Nat.le_of_eq rfl) (hb hby at_400) rfl rfl (by decide) (by decide) (c' := 30) (s' := 365) rfl rfl hS0 (Nat.le_trans hk0 K1.1)
    obtain ⟨b4, rfl, Nq4, K4, fq4_0, fq4_1, fq4_2, fq4_3, fq4_4, fq4_5, fq4_6, fq4_7, fq4_8, xq4_fresh_b, wmq4⟩ := hQ4
    have N4 := Fr.app N1 Nq4
    have hZ4 : Z.Warmed39 (s.setVm T4.vm).vm := own_hZ hZs hS4
    have hown4 : (s.setVm T4.vm).vm.findClass ks3 = some m.cls := own_hown howns hS4
    refine own_spV (q := 403) (S' := [(.ref b4)]) st4 ?_
    clear st4
    refine own_stV (T' := T4) (g' := (mkF m 405 #[iv i0, iv i1, iv i2, iv i3, iv i4, iv i5, rv ka, rv ra, rv kd, iv tv, iv rq, iv wh, iv hd, iv (1 : Int32), rv r1, rv r2, rv s16, rv s17, rv s18, rv v19, rv v20, rv v21, rv al, rv b4, .unset, .unset, .unset] [])) (fun _ k_ => XS.astore X4.here hx rfl (hb hby at_403) rfl rfl (l' := #[iv i0, iv i1, iv i2, iv i3, iv i4, iv i5, rv ka, rv ra, rv kd, iv tv, iv rq, iv wh, iv hd, iv (1 : Int32), rv r1, rv r2, rv s16, rv s17, rv s18, rv v19, rv v20, rv v21, rv al, rv b4, .unset, .unset, .unset]) rfl k_) ?_
    have f5 := E_s16.keep K1
    have f6 := f5.keep K4
    have f7 := E_s17.keep K1
    have f8 := f7.keep K4
    have f9 := E_v19.keep K1
    have f10 := f9.keep K4
    have f11 := fq1_0.keep K4
    have f12 := fq1_1.keep K4 nin0
    have f13 := fq1_2.keep K4 nin0
    have f14 := fq1_3.keep K4 nin0
    have f15 := fq1_4.keep K4 nin0
    have f16 := f3.keep K4 all0
    exact seg_C1 h0 T4.heap n0 i0 i1 i2 i3 i4 i5 ka ra kd tv rq wh hd r1 r2 s16 s17 s18 v19 v20 v21 al w_TEXT w_OPTION w_METHOD w_TARGET w_BODY w_TIME w_NONCE dA clD kO mir em el oe cz b4 t1 ((0 : Int32) + (1 : Int32)) (X4.mono (by decide) (by decide)) hx hZs hZ4 hS4 (Nat.le_refl _) hw hby hml howns hown4 hnm hret hlk rfl N4 f16 HBs f6 f8 f10 X_r1 X_r2 hrq hwn hhd hT1 hT4 hk1 fq4_0 fq4_1 fq4_2 (by rw [hc2]; exact fq4_3) fq4_4 fq4_5 fq4_6 fq4_7 fq4_8 f11 f12 f13 f14 f15
  · refine own_spV (q := 382) (S' := []) (fun _ k_ => XS.ifNo X1.here hx rfl (hb hby at_379) rfl ((if0 _ _).trans (feq hc2).1) k_) ?_
    refine own_spV (q := 384) (S' := [(.ref s16)]) (fun _ k_ => XS.aload X1.here hx rfl (hb hby at_382) rfl rfl  k_) ?_
    refine own_spV (q := 386) (S' := [(.ref kd), (.ref s16)]) (fun _ k_ => XS.aload X1.here hx rfl (hb hby at_384) rfl rfl  k_) ?_
    refine own_spV (q := 388) (S' := [(.ref s17), (.ref kd), (.ref s16)]) (fun _ k_ => XS.aload X1.here hx rfl (hb hby at_386) rfl rfl  k_) ?_
    have f17 := O0.keep K1 (allS f_al all0)
    obtain ⟨_, T18, L18, X18, hS18, hW18, hQ18, st18⟩ := own_callSV (Z := Z) X1 hx (y := own_m52) hown (mvT hZ (wd hw 249 rfl)) (mvT hZ (wd hw 250 rfl)) (mvT hZ (wd hw 97 rfl)) (mvT hZ (wd hw 251 rfl)) (by decide) (own_backV (W := 0) (rm_mk_required l Z a0 hw [] s16 kd s17 w_OPTION w_TEXT el oe T1.heap n0 f17 S_el IL_el S_oe X_oe F_oe S_TEXT S_OPTION) hZ (wd hw 251 rfl) (wd hw 97 rfl) (by decide) (by decide) (fun _ _ => trivial)) (g := (mkF m 388 #[iv i0, iv i1, iv i2, iv i3, iv i4, iv i5, rv ka, rv ra, rv kd, iv tv, iv rq, iv wh, iv hd, iv (1 : Int32), rv r1, rv r2, rv s16, rv s17, rv s18, rv v19, rv v20, rv v21, rv al, .unset, .unset, .unset, .unset] [(.ref s17), (.ref kd), (.ref s16)])) rfl (by rw [hml]; rfl) (argsL := [(.ref s16), (.ref kd), (.ref s17)]) (rest := []) (lenOf pd__Ljava_lang_String_Lcom_example_countersign_countersign_Parameter_Kind_Ljava_lang_String__Lcom_example_countersign_countersign_Parameter_ rfl) rfl (by show 2 * 0 + _ ≤ _; exact Nat.le_of_eq rfl) (hb hby at_388) rfl rfl (by decide) (by decide) (c' := 30) (s' := 365) rfl rfl hS0 (Nat.le_trans hk0 K1.1)
    obtain ⟨b18, rfl, Nq18, K18, fq18_0, fq18_1, fq18_2, fq18_3, fq18_4, fq18_5, fq18_6, fq18_7, fq18_8, xq18_fresh_b, wmq18⟩ := hQ18
    have N18 := Fr.app N1 Nq18
    have hZ18 : Z.Warmed39 (s.setVm T18.vm).vm := own_hZ hZs hS18
    have hown18 : (s.setVm T18.vm).vm.findClass ks3 = some m.cls := own_hown howns hS18
    refine own_spV (q := 391) (S' := [(.ref b18)]) st18 ?_
    clear st18
    refine own_spV (q := 403) (S' := [(.ref b18)]) (fun _ k_ => XS.goto X18.here hx rfl (pc0 := 391) (pc' := 403) rfl (hb hby at_391) (by decide) (by decide) k_) ?_
    refine own_stV (T' := T18) (g' := (mkF m 405 #[iv i0, iv i1, iv i2, iv i3, iv i4, iv i5, rv ka, rv ra, rv kd, iv tv, iv rq, iv wh, iv hd, iv (1 : Int32), rv r1, rv r2, rv s16, rv s17, rv s18, rv v19, rv v20, rv v21, rv al, rv b18, .unset, .unset, .unset] [])) (fun _ k_ => XS.astore X18.here hx rfl (hb hby at_403) rfl rfl (l' := #[iv i0, iv i1, iv i2, iv i3, iv i4, iv i5, rv ka, rv ra, rv kd, iv tv, iv rq, iv wh, iv hd, iv (1 : Int32), rv r1, rv r2, rv s16, rv s17, rv s18, rv v19, rv v20, rv v21, rv al, rv b18, .unset, .unset, .unset]) rfl k_) ?_
    have f19 := E_s16.keep K1
    have f20 := f19.keep K18
    have f21 := E_s17.keep K1
    have f22 := f21.keep K18
    have f23 := E_v19.keep K1
    have f24 := f23.keep K18
    have f25 := fq1_0.keep K18
    have f26 := fq1_1.keep K18 nin0
    have f27 := fq1_2.keep K18 nin0
    have f28 := fq1_3.keep K18 nin0
    have f29 := fq1_4.keep K18 nin0
    have f30 := f17.keep K18 all0
    exact seg_C1 h0 T18.heap n0 i0 i1 i2 i3 i4 i5 ka ra kd tv rq wh hd r1 r2 s16 s17 s18 v19 v20 v21 al w_TEXT w_OPTION w_METHOD w_TARGET w_BODY w_TIME w_NONCE dA clD kO mir em el oe cz b18 t1 ((0 : Int32) + (1 : Int32)) (X18.mono (by decide) (by decide)) hx hZs hZ18 hS18 (Nat.le_refl _) hw hby hml howns hown18 hnm hret hlk rfl N18 f30 HBs f20 f22 f24 X_r1 X_r2 hrq hwn hhd hT1 hT4 hk1 fq18_0 fq18_1 fq18_2 (by rw [hrq.resolve_left hc2]; exact fq18_3) fq18_4 fq18_5 fq18_6 fq18_7 fq18_8 f25 f26 f27 f28 f29
theorem seg_C2 (h0 : Heap) (hB : Heap) (n0 : Nat) (i0 : Int32) (i1 : Int32) (i2 : Int32) (i3 : Int32) (i4 : Int32) (i5 : Int32) (ka : Addr) (ra : Addr) (kd : Addr) (tv : Int32) (rq : Int32) (wh : Int32) (hd : Int32) (r1 : Addr) (r2 : Addr) (s16 : Addr) (s17 : Addr) (s18 : Addr) (v19 : Addr) (v20 : Addr) (v21 : Addr) (al : Addr) (w_TEXT : Addr) (w_OPTION : Addr) (w_METHOD : Addr) (w_TARGET : Addr) (w_BODY : Addr) (w_TIME : Addr) (w_NONCE : Addr) (dA : Addr) (clD : Cell) (kO : ClassId) (mir : Addr) (em : Addr) (el : Addr) (oe : Addr) (cz : Int32) (p_ : Addr) (t : Addr) (mc : Int32)
    (X0 : Stand p l e room_1 (s.setVm vm0) m args below meth c T0 locs 30 376) (hx : p.tables.exec = Jvm.exec) (hZs : Z.Warmed39 s.vm) (hZ : Z.Warmed39 (s.setVm vm0).vm) (hS0 : s.Since vm0 k0) (hk0 : k0 ≤ hB.size) (hw : own_HW a0 Z) (hby : c.code = code) (hml : c.maxLocals = 27) (howns : s.vm.findClass ks3 = some m.cls) (hown : (s.setVm vm0).vm.findClass ks3 = some m.cls) (hnm : meth.name = "law") (hret : meth.sig.returnType = some .boolean) (hlk : meth.locks = false) (e0 : T0.heap = hB) (N0 : Fr n0 locs) (O0 : Old Z n0 hB) (HBs : own_Bs Z w_TEXT w_OPTION w_METHOD w_TARGET w_BODY w_TIME w_NONCE dA clD kO mir em el oe cz) (E_s16 : Exa Z hB s16 ks10) (E_s17 : Exa Z hB s17 ks10) (E_v19 : Exa Z hB v19 ks10) (E_v20 : Exa Z hB v20 ks10) (hye : v20 ≠ em) (X_r1 : Exa Z Z.heap r1 ks1) (X_r2 : Exa Z Z.heap r2 ks1) (hrq : own_B rq) (hwn : own_B wh) (hhd : own_B hd) (hT1 : ¬ wh = (0 : Int32) → kd = w_TEXT) (hT4 : ¬ hd = (0 : Int32) → kd = w_TEXT) (hk1 : kd = w_TEXT) (PP0 : Exa Z hB p_ ks0) (PP1 : Fld Z hB p_ ks0 "name" ks13 (.ref s16)) (PP2 : Fld Z hB p_ ks0 "kind" ks5 (.ref kd)) (PP3 : Fld Z hB p_ ks0 ks23 "Z" (.int rq)) (PP4 : Fld Z hB p_ ks0 ks21 ks13 (.ref s17)) (PP5 : Fld Z hB p_ ks0 "choices" ks16 (.ref el)) (PP6 : Fld Z hB p_ ks0 ks22 "Z" (.int (0 : Int32))) (PP7 : Fld Z hB p_ ks0 "role" ks7 (.ref w_OPTION)) (PP8 : Fld Z hB p_ ks0 "header" ks15 (.ref oe)) (AL0 : Exa Z hB al ks6) (AL1 : Fld Z hB al ks6 ks20 ks8 (.ref t)) (AL2 : Fld Z hB al ks6 "size" "I" (.int (2 : Int32))) (AL3 : Fld Z hB al ks17 "modCount" "I" (.int mc)) (AL4 : Arv Z hB t kO (.object ks2) (10 : Int32) [(.ref v19), (.ref v20), .null, .null, .null, .null, .null, .null, .null, .null] .null) :
    own_V p e below s room_1.cells room_1.slots (fun v h L _ => own_L n0 v h L) T0 (mkF m 405 #[iv i0, iv i1, iv i2, iv i3, iv i4, iv i5, rv ka, rv ra, rv kd, iv tv, iv rq, iv wh, iv hd, iv (2 : Int32), rv r1, rv r2, rv s16, rv s17, rv s18, rv v19, rv v20, rv v21, rv al, rv p_, .unset, .unset, .unset] []) := by
  obtain ⟨S_TEXT, S_OPTION, X_OPTION, S_METHOD, X_METHOD, S_TARGET, X_TARGET, S_BODY, X_BODY, S_TIME, X_TIME, S_NONCE, X_NONCE, SDe, AD, LD, OV, FC, MIR, SEm, X_em, S_el, IL_el, S_oe, X_oe, F_oe, SC, hcz⟩ := id HBs
  refine own_stV (T' := T0) (g' := (mkF m 407 #[iv i0, iv i1, iv i2, iv i3, iv i4, iv i5, rv ka, rv ra, rv kd, iv tv, iv rq, iv wh, iv hd, iv (2 : Int32), rv r1, rv r2, rv s16, rv s17, rv s18, rv v19, rv v20, rv v21, rv al, rv p_, .unset, .unset, .unset] [(.int (2 : Int32))])) (fun _ k_ => XS.iload X0.here hx rfl (hb hby at_405) rfl  k_) ?_
  refine own_spV (q := 410) (S' := []) (fun _ k_ => XS.ifNo X0.here hx rfl (hb hby at_407) rfl ((if0 _ _).trans (tlt (by decide : (0 : Int32) < (2 : Int32))).2.2.2) k_) ?_
  refine own_spV (q := 412) (S' := [(.ref p_)]) (fun _ k_ => XS.aload X0.here hx rfl (hb hby at_410) rfl rfl  k_) ?_
  refine own_spV (q := 414) (S' := [(.ref al), (.ref p_)]) (fun _ k_ => XS.aload X0.here hx rfl (hb hby at_412) rfl rfl  k_) ?_
  obtain ⟨cq1, kq1, q1a, q1b, q1c⟩ := isOf hZ e0 PP0
  obtain ⟨_, T1, L1, X1, hS1, hW1, hQ1, st1⟩ := own_callVV (Z := Z) X0 hx (y := own_m50) (z := own_m50) hown (mvT hZ (wd hw 283 rfl)) (mvT hZ (wd hw 284 rfl)) (notFace_of_selects (args := #[]) (mvT hZ (wd hw 286 rfl))) (mvT hZ (wd hw 286 rfl)) (mvT hZ (wd hw 285 rfl)) (by decide) (own_backV (W := 0) (rm_wch l Z a0 hw [] p_ s16 kd rq s17 (0 : Int32) w_OPTION oe .null w_TEXT al (own_LQ2 Z kO v19 v20) hB n0 O0 PP1 PP2 PP3 PP4 PP6 PP7 PP8 (X_oe.ext O0.2) (F_oe.ext O0.2) rfl hrq (Or.inl rfl) (fun q => absurd rfl q) (fun q => absurd rfl q) S_TEXT hk1 (own_CP2 hw AL0 AL1 AL2 AL4 OV FC MIR (Ins.of_exa E_v19 (wd hw 282 rfl)) (Ins.of_exa E_v20 (wd hw 282 rfl))) own_LQC2) hZ (wd hw 287 rfl) (wd hw 97 rfl) (by decide) (by decide) (fun _ _ => trivial)) q1a q1c (g := (mkF m 414 #[iv i0, iv i1, iv i2, iv i3, iv i4, iv i5, rv ka, rv ra, rv kd, iv tv, iv rq, iv wh, iv hd, iv (2 : Int32), rv r1, rv r2, rv s16, rv s17, rv s18, rv v19, rv v20, rv v21, rv al, rv p_, .unset, .unset, .unset] [(.ref al), (.ref p_)])) rfl (by rw [hml]; rfl) (argsL := [(.ref al)]) (rest := []) (lenOf pd__Ljava_util_List__Lcom_example_countersign_countersign_Parameter_ rfl) rfl (by show 2 * 0 + _ ≤ _; exact Nat.le_of_eq rfl) (hb hby at_414) rfl e0 (by decide) (by decide) (c' := 44) (s' := 694) rfl rfl hS0 hk0
  clear q1a q1b q1c kq1 cq1
  obtain ⟨b1, x1, rfl, Nq1, K1, fq1_0, fq1_1, fq1_2, fq1_3, fq1_4, fq1_5, fq1_6, fq1_7, fq1_8, xq1_fresh_b, xq1_LQx, wmq1⟩ := hQ1
  have N1 := Fr.app N0 Nq1
  have hZ1 : Z.Warmed39 (s.setVm T1.vm).vm := own_hZ hZs hS1
  have hown1 : (s.setVm T1.vm).vm.findClass ks3 = some m.cls := own_hown howns hS1
  refine own_spV (q := 417) (S' := [(.ref b1)]) st1 ?_
  clear st1
  obtain ⟨lq1_0, lq1_1, lq1_2, -⟩ := id xq1_LQx
  refine own_stV (T' := T1) (g' := (mkF m 419 #[iv i0, iv i1, iv i2, iv i3, iv i4, iv i5, rv ka, rv ra, rv kd, iv tv, iv rq, iv wh, iv hd, iv (2 : Int32), rv r1, rv r2, rv s16, rv s17, rv s18, rv v19, rv v20, rv v21, rv al, rv b1, .unset, .unset, .unset] [])) (fun _ k_ => XS.astore X1.here hx rfl (hb hby at_417) rfl rfl (l' := #[iv i0, iv i1, iv i2, iv i3, iv i4, iv i5, rv ka, rv ra, rv kd, iv tv, iv rq, iv wh, iv hd, iv (2 : Int32), rv r1, rv r2, rv s16, rv s17, rv s18, rv v19, rv v20, rv v21, rv al, rv b1, .unset, .unset, .unset]) rfl k_) ?_
  have il2 : own_IL Z T1.heap x1 (0 : Int32) := (Or.inl ⟨lq1_0, rfl⟩)
  have hkt_ : (0 : Int32) = (0 : Int32) → kd = w_TEXT := fun _ => hk1
  refine own_spV (q := 421) (S' := [(.int wh)]) (fun _ k_ => XS.iload X1.here hx rfl (hb hby at_419) rfl  k_) ?_
  by_cases hc3 : wh = (0 : Int32)
  · refine own_spV (q := 431) (S' := []) (fun _ k_ => XS.ifYes X1.here hx rfl (pc0 := 421) (pc' := 431) rfl (hb hby at_421) rfl ((if0 _ _).trans (teq hc3).1) (by decide) (by decide) k_) ?_
    have f4 := E_v19.keep K1
    have f5 := E_v20.keep K1
    have f6 := E_s16.keep K1
    have f7 := E_s17.keep K1
    have f8 := O0.keep K1 all0
    exact seg_F h0 T1.heap n0 i0 i1 i2 i3 i4 i5 ka ra kd tv rq wh hd (2 : Int32) r1 r2 s16 s17 s18 v19 v20 v21 al w_TEXT w_OPTION w_METHOD w_TARGET w_BODY w_TIME w_NONCE dA clD kO mir em el oe cz b1 x1 (0 : Int32) (fun h => (Exa Z h v19 ks10) ∧ (Exa Z h v20 ks10) ∧ (Exa Z h x1 ks4) ∧ (Fld Z h x1 ks4 "e0" ks12 (.ref v19)) ∧ (Fld Z h x1 ks4 "e1" ks12 (.ref v20)) ∧ True) (X1.mono (by decide) (by decide)) hx hZs hZ1 hS1 (Nat.le_refl _) hw hby hml howns hown1 hnm hret hlk rfl N1 f8 HBs f6 f7 X_r1 X_r2 hrq hwn hhd hT1 hT4 hkt_ fq1_0 fq1_1 fq1_2 fq1_3 fq1_4 fq1_5 (by rw [hc3]; exact fq1_6) fq1_7 fq1_8 il2 (fun h_ h1_ E_ q_ => by obtain ⟨q0_, q1_, q2_, q3_, q4_, -⟩ := q_; exact ⟨q0_.ext E_, q1_.ext E_, q2_.ext E_, q3_.ext E_, q4_.ext E_, trivial⟩) ⟨f4, f5, lq1_0, lq1_1, lq1_2, trivial⟩ (fun p2 q_ h_ vm_ k_ T_ locs_ X_ hZ_ hown_ hS_ hk_ e_ N_ O_ F_q E_q L_ => by
      obtain ⟨L0_, L1_, L2_, L3_, L4_, -⟩ := L_
      exact seg_H2 h0 h_ n0 i0 i1 i2 i3 i4 i5 ka ra kd tv rq wh hd (2 : Int32) r1 r2 s16 s17 s18 v19 v20 v21 al w_TEXT w_OPTION w_METHOD w_TARGET w_BODY w_TIME w_NONCE dA clD kO mir em el oe cz p2 q_ x1 X_ hx hZs hZ_ hS_ hk_ hw hby hml howns hown_ hnm hret hlk e_ N_ O_ HBs L0_ L1_ hye F_q E_q L2_ L3_ L4_)
  · refine own_spV (q := 424) (S' := []) (fun _ k_ => XS.ifNo X1.here hx rfl (hb hby at_421) rfl ((if0 _ _).trans (feq hc3).1) k_) ?_
    refine own_spV (q := 426) (S' := [(.ref b1)]) (fun _ k_ => XS.aload X1.here hx rfl (hb hby at_424) rfl rfl  k_) ?_
    have f9 := O0.keep K1 all0
    obtain ⟨cq10, kq10, q10a, q10b, q10c⟩ := isOf hZ1 rfl fq1_0
    obtain ⟨_, T10, L10, X10, hS10, hW10, hQ10, st10⟩ := own_callVV (Z := Z) X1 hx (y := own_m48) (z := own_m48) hown1 (mvT hZ1 (wd hw 367 rfl)) (mvT hZ1 (wd hw 368 rfl)) (notFace_of_selects (args := #[]) (mvT hZ1 (wd hw 370 rfl))) (mvT hZ1 (wd hw 370 rfl)) (mvT hZ1 (wd hw 369 rfl)) (by decide) (own_backV (W := 0) (rm_whn l Z a0 hw [] b1 s16 kd rq s17 w_OPTION oe .null w_TEXT x1 (0 : Int32) T1.heap n0 f9 fq1_1 fq1_2 fq1_3 fq1_4 fq1_5 fq1_6 fq1_7 fq1_8 (X_oe.ext f9.2) (F_oe.ext f9.2) rfl hrq (hT1 hc3) (fun q => absurd rfl q) S_TEXT il2 hkt_) hZ1 (wd hw 371 rfl) (wd hw 97 rfl) (by decide) (by decide) (fun _ _ => trivial)) q10a q10c (g := (mkF m 426 #[iv i0, iv i1, iv i2, iv i3, iv i4, iv i5, rv ka, rv ra, rv kd, iv tv, iv rq, iv wh, iv hd, iv (2 : Int32), rv r1, rv r2, rv s16, rv s17, rv s18, rv v19, rv v20, rv v21, rv al, rv b1, .unset, .unset, .unset] [(.ref b1)])) rfl (by rw [hml]; rfl) (argsL := []) (rest := []) (lenOf pd___Lcom_example_countersign_countersign_Parameter_ rfl) rfl (by show 2 * 0 + _ ≤ _; exact Nat.le_of_eq rfl) (hb hby at_426) rfl rfl (by decide) (by decide) (c' := 55) (s' := 998) rfl rfl hS1 (Nat.le_refl _)
    clear q10a q10b q10c kq10 cq10
    obtain ⟨b10, rfl, Nq10, K10, fq10_0, fq10_1, fq10_2, fq10_3, fq10_4, fq10_5, fq10_6, fq10_7, fq10_8, xq10_fresh_b, wmq10⟩ := hQ10
    have N10 := Fr.app N1 Nq10
    have hZ10 : Z.Warmed39 (s.setVm T10.vm).vm := own_hZ hZs hS10
    have hown10 : (s.setVm T10.vm).vm.findClass ks3 = some m.cls := own_hown howns hS10
    refine own_spV (q := 429) (S' := [(.ref b10)]) st10 ?_
    clear st10
    refine own_stV (T' := T10) (g' := (mkF m 431 #[iv i0, iv i1, iv i2, iv i3, iv i4, iv i5, rv ka, rv ra, rv kd, iv tv, iv rq, iv wh, iv hd, iv (2 : Int32), rv r1, rv r2, rv s16, rv s17, rv s18, rv v19, rv v20, rv v21, rv al, rv b10, .unset, .unset, .unset] [])) (fun _ k_ => XS.astore X10.here hx rfl (hb hby at_429) rfl rfl (l' := #[iv i0, iv i1, iv i2, iv i3, iv i4, iv i5, rv ka, rv ra, rv kd, iv tv, iv rq, iv wh, iv hd, iv (2 : Int32), rv r1, rv r2, rv s16, rv s17, rv s18, rv v19, rv v20, rv v21, rv al, rv b10, .unset, .unset, .unset]) rfl k_) ?_
    have f11 := E_v19.keep K1
    have f12 := f11.keep K10
    have f13 := E_v20.keep K1
    have f14 := f13.keep K10
    have f15 := lq1_0.keep K10
    have f16 := lq1_1.keep K10 nin0
    have f17 := lq1_2.keep K10 nin0
    have f18 := E_s16.keep K1
    have f19 := f18.keep K10
    have f20 := E_s17.keep K1
    have f21 := f20.keep K10
    have f22 := own_ILk il2 K10
    have f23 := f9.keep K10 all0
    exact seg_F h0 T10.heap n0 i0 i1 i2 i3 i4 i5 ka ra kd tv rq wh hd (2 : Int32) r1 r2 s16 s17 s18 v19 v20 v21 al w_TEXT w_OPTION w_METHOD w_TARGET w_BODY w_TIME w_NONCE dA clD kO mir em el oe cz b10 x1 (0 : Int32) (fun h => (Exa Z h v19 ks10) ∧ (Exa Z h v20 ks10) ∧ (Exa Z h x1 ks4) ∧ (Fld Z h x1 ks4 "e0" ks12 (.ref v19)) ∧ (Fld Z h x1 ks4 "e1" ks12 (.ref v20)) ∧ True) (X10.mono (by decide) (by decide)) hx hZs hZ10 hS10 (Nat.le_refl _) hw hby hml howns hown10 hnm hret hlk rfl N10 f23 HBs f19 f21 X_r1 X_r2 hrq hwn hhd hT1 hT4 hkt_ fq10_0 fq10_1 fq10_2 fq10_3 fq10_4 fq10_5 (by rw [hwn.resolve_left hc3]; exact fq10_6) fq10_7 fq10_8 f22 (fun h_ h1_ E_ q_ => by obtain ⟨q0_, q1_, q2_, q3_, q4_, -⟩ := q_; exact ⟨q0_.ext E_, q1_.ext E_, q2_.ext E_, q3_.ext E_, q4_.ext E_, trivial⟩) ⟨f12, f14, f15, f16, f17, trivial⟩ (fun p2 q_ h_ vm_ k_ T_ locs_ X_ hZ_ hown_ hS_ hk_ e_ N_ O_ F_q E_q L_ => by
      obtain ⟨L0_, L1_, L2_, L3_, L4_, -⟩ := L_
      exact seg_H2 h0 h_ n0 i0 i1 i2 i3 i4 i5 ka ra kd tv rq wh hd (2 : Int32) r1 r2 s16 s17 s18 v19 v20 v21 al w_TEXT w_OPTION w_METHOD w_TARGET w_BODY w_TIME w_NONCE dA clD kO mir em el oe cz p2 q_ x1 X_ hx hZs hZ_ hS_ hk_ hw hby hml howns hown_ hnm hret hlk e_ N_ O_ HBs L0_ L1_ hye F_q E_q L2_ L3_ L4_)
theorem seg_B2 (h0 : Heap) (hB : Heap) (n0 : Nat) (i0 : Int32) (i1 : Int32) (i2 : Int32) (i3 : Int32) (i4 : Int32) (i5 : Int32) (ka : Addr) (ra : Addr) (kd : Addr) (tv : Int32) (rq : Int32) (wh : Int32) (hd : Int32) (r1 : Addr) (r2 : Addr) (s16 : Addr) (s17 : Addr) (s18 : Addr) (v19 : Addr) (v20 : Addr) (v21 : Addr) (al : Addr) (w_TEXT : Addr) (w_OPTION : Addr) (w_METHOD : Addr) (w_TARGET : Addr) (w_BODY : Addr) (w_TIME : Addr) (w_NONCE : Addr) (dA : Addr) (clD : Cell) (kO : ClassId) (mir : Addr) (em : Addr) (el : Addr) (oe : Addr) (cz : Int32)
    (X0 : Stand p l e room_1 (s.setVm vm0) m args below meth c T0 locs 18 51) (hx : p.tables.exec = Jvm.exec) (hZs : Z.Warmed39 s.vm) (hZ : Z.Warmed39 (s.setVm vm0).vm) (hS0 : s.Since vm0 k0) (hk0 : k0 ≤ hB.size) (hw : own_HW a0 Z) (hby : c.code = code) (hml : c.maxLocals = 27) (howns : s.vm.findClass ks3 = some m.cls) (hown : (s.setVm vm0).vm.findClass ks3 = some m.cls) (hnm : meth.name = "law") (hret : meth.sig.returnType = some .boolean) (hlk : meth.locks = false) (e0 : T0.heap = hB) (N0 : Fr n0 locs) (O0 : Old Z n0 hB) (HBs : own_Bs Z w_TEXT w_OPTION w_METHOD w_TARGET w_BODY w_TIME w_NONCE dA clD kO mir em el oe cz) (E_s16 : Exa Z hB s16 ks10) (E_s17 : Exa Z hB s17 ks10) (E_v19 : Exa Z hB v19 ks10) (E_v20 : Exa Z hB v20 ks10) (hye : v20 ≠ em) (X_r1 : Exa Z Z.heap r1 ks1) (X_r2 : Exa Z Z.heap r2 ks1) (hrq : own_B rq) (hwn : own_B wh) (hhd : own_B hd) (hT1 : ¬ wh = (0 : Int32) → kd = w_TEXT) (hT4 : ¬ hd = (0 : Int32) → kd = w_TEXT) (hk1 : kd = w_TEXT) (AL0 : Exa Z hB al ks6) (AL1 : Fld Z hB al ks6 ks20 ks8 (.ref dA)) (AL2 : Fld Z hB al ks6 "size" "I" (.int (0 : Int32))) (AL3 : Fld Z hB al ks17 "modCount" "I" (.int (0 : Int32))) (f_al : n0 ≤ al) :
    own_V p e below s room_1.cells room_1.slots (fun v h L _ => own_L n0 v h L) T0 (mkF m 335 #[iv i0, iv i1, iv i2, iv i3, iv i4, iv i5, rv ka, rv ra, rv kd, iv tv, iv rq, iv wh, iv hd, iv (2 : Int32), rv r1, rv r2, rv s16, rv s17, rv s18, rv v19, rv v20, rv v21, rv al, .unset, .unset, .unset, .unset] []) := by
  obtain ⟨S_TEXT, S_OPTION, X_OPTION, S_METHOD, X_METHOD, S_TARGET, X_TARGET, S_BODY, X_BODY, S_TIME, X_TIME, S_NONCE, X_NONCE, SDe, AD, LD, OV, FC, MIR, SEm, X_em, S_el, IL_el, S_oe, X_oe, F_oe, SC, hcz⟩ := id HBs
  refine own_stV (T' := T0) (g' := (mkF m 337 #[iv i0, iv i1, iv i2, iv i3, iv i4, iv i5, rv ka, rv ra, rv kd, iv tv, iv rq, iv wh, iv hd, iv (2 : Int32), rv r1, rv r2, rv s16, rv s17, rv s18, rv v19, rv v20, rv v21, rv al, .unset, .unset, .unset, .unset] [(.int (2 : Int32))])) (fun _ k_ => XS.iload X0.here hx rfl (hb hby at_335) rfl  k_) ?_
  refine own_spV (q := 338) (S' := [(.int (1 : Int32)), (.int (2 : Int32))]) (fun _ k_ => XS.iconst X0.here hx rfl (hb hby at_337) k_) ?_
  refine own_spV (q := 341) (S' := []) (fun _ k_ => XS.icmpNo X0.here hx rfl (hb hby at_338) rfl (flt (by decide : ¬ ((2 : Int32) < (1 : Int32)))).1 k_) ?_
  refine own_spV (q := 343) (S' := [(.ref al)]) (fun _ k_ => XS.aload X0.here hx rfl (hb hby at_341) rfl rfl  k_) ?_
  refine own_spV (q := 345) (S' := [(.ref v19), (.ref al)]) (fun _ k_ => XS.aload X0.here hx rfl (hb hby at_343) rfl rfl  k_) ?_
  refine own_kcV own_ckV X0 hx hZ hown hml (y := own_m16) (wd hw 252 rfl) (wd hw 253 rfl) (wd hw 255 rfl) (wd hw 254 rfl) (wd hw 73 rfl) (wd hw 256 rfl) (by decide) AL0 (rm_add_0 l Z a0 hw [] al v19 (0 : Int32) dA clD kO hB n0 O0 AL0 AL1 AL2 AL3 f_al SDe AD LD OV FC (Ins.of_exa E_v19 (wd hw 282 rfl))) (by decide) (by decide) (W := 0) (Nat.le_of_eq rfl) (argsL := [(.ref v19)]) (rest := []) (lenOf pd__Ljava_lang_Object__Z rfl) rfl rfl (hb hby at_345) rfl e0 (by decide) (by decide) (c' := 19) (s' := 61) rfl rfl (q := 348) rfl fun _ T1 L1 X1 hQ1 => ?_
  obtain ⟨t1, rfl, Nq1, K1, fq1_0, fq1_1, fq1_2, fq1_3, fq1_4, xq1_fresh_t⟩ := hQ1
  have N1 := Fr.app N0 Nq1
  show own_V p e below s _ _ _ T1 (mkF m 348 _ [(.int (1 : Int32))])
  refine own_spV (q := 349) (S' := []) (fun _ k_ => XS.pop X1.here hx rfl (hb hby at_348) rfl rfl k_) ?_
  refine own_spV (q := 351) (S' := [(.int (2 : Int32))]) (fun _ k_ => XS.iload X1.here hx rfl (hb hby at_349) rfl  k_) ?_
  refine own_spV (q := 352) (S' := [(.int (2 : Int32)), (.int (2 : Int32))]) (fun _ k_ => XS.iconst X1.here hx rfl (hb hby at_351) k_) ?_
  refine own_spV (q := 355) (S' := []) (fun _ k_ => XS.icmpNo X1.here hx rfl (hb hby at_352) rfl (flt (by decide : ¬ ((2 : Int32) < (2 : Int32)))).1 k_) ?_
  refine own_spV (q := 357) (S' := [(.ref al)]) (fun _ k_ => XS.aload X1.here hx rfl (hb hby at_355) rfl rfl  k_) ?_
  refine own_spV (q := 359) (S' := [(.ref v20), (.ref al)]) (fun _ k_ => XS.aload X1.here hx rfl (hb hby at_357) rfl rfl  k_) ?_
  have f2 := E_v20.keep K1
  have f3 := O0.keep K1 (allS f_al all0)
  refine own_kcV own_ckV X1 hx hZ hown hml (y := own_m16) (wd hw 252 rfl) (wd hw 253 rfl) (wd hw 255 rfl) (wd hw 254 rfl) (wd hw 73 rfl) (wd hw 256 rfl) (by decide) fq1_0 (rm_add_1 l Z a0 hw [] al v20 t1 ((0 : Int32) + (1 : Int32)) kO (.ref v19) T1.heap n0 f3 fq1_0 fq1_1 fq1_2 fq1_3 fq1_4 f_al (Nat.le_trans (own_z O0) xq1_fresh_t) OV FC (Ins.of_exa f2 (wd hw 282 rfl))) (by decide) (by decide) (W := 0) (Nat.le_of_eq rfl) (argsL := [(.ref v20)]) (rest := []) (lenOf pd__Ljava_lang_Object__Z rfl) rfl rfl (hb hby at_359) rfl rfl (by decide) (by decide) (c' := 19) (s' := 61) rfl rfl (q := 362) rfl fun _ T4 L4 X4 hQ4 => ?_
  obtain ⟨rfl, Nq4, K4, fq4_0, fq4_1, fq4_2, fq4_3, fq4_4⟩ := hQ4
  have N4 := Fr.app N1 Nq4
  show own_V p e below s _ _ _ T4 (mkF m 362 _ [(.int (1 : Int32))])
  refine own_spV (q := 363) (S' := []) (fun _ k_ => XS.pop X4.here hx rfl (hb hby at_362) rfl rfl k_) ?_
  refine own_spV (q := 365) (S' := [(.int (2 : Int32))]) (fun _ k_ => XS.iload X4.here hx rfl (hb hby at_363) rfl  k_) ?_
  refine own_spV (q := 366) (S' := [(.int (3 : Int32)), (.int (2 : Int32))]) (fun _ k_ => XS.iconst X4.here hx rfl (hb hby at_365) k_) ?_
  refine own_spV (q := 377) (S' := []) (fun _ k_ => XS.icmpYes X4.here hx rfl (pc0 := 366) (pc' := 377) rfl (hb hby at_366) rfl (tlt (by decide : (2 : Int32) < (3 : Int32))).1 (by decide) (by decide) k_) ?_
  refine own_spV (q := 379) (S' := [(.int rq)]) (fun _ k_ => XS.iload X4.here hx rfl (hb hby at_377) rfl  k_) ?_
  by_cases hc5 : rq = (0 : Int32)
  · refine own_spV (q := 394) (S' := []) (fun _ k_ => XS.ifYes X4.here hx rfl (pc0 := 379) (pc' := 394) rfl (hb hby at_379) rfl ((if0 _ _).trans (teq hc5).1) (by decide) (by decide) k_) ?_
    refine own_spV (q := 396) (S' := [(.ref s16)]) (fun _ k_ => XS.aload X4.here hx rfl (hb hby at_394) rfl rfl  k_) ?_
    refine own_spV (q := 398) (S' := [(.ref kd), (.ref s16)]) (fun _ k_ => XS.aload X4.here hx rfl (hb hby at_396) rfl rfl  k_) ?_
    refine own_spV (q := 400) (S' := [(.ref s17), (.ref kd), (.ref s16)]) (fun _ k_ => XS.aload X4.here hx rfl (hb hby at_398) rfl rfl  k_) ?_
    have f6 := f3.keep K4 (allS f_al (allS (Nat.le_trans (own_z O0) xq1_fresh_t) all0))
    obtain ⟨_, T7, L7, X7, hS7, hW7, hQ7, st7⟩ := own_callSV (Z := Z) X4 hx (y := own_m51) hown (mvT hZ (wd hw 95 rfl)) (mvT hZ (wd hw 96 rfl)) (mvT hZ (wd hw 97 rfl)) (mvT hZ (wd hw 98 rfl)) (by decide) (own_backV (W := 0) (rm_mk_optional l Z a0 hw [] s16 kd s17 w_OPTION w_TEXT el oe T4.heap n0 f6 S_el IL_el S_oe X_oe F_oe S_TEXT S_OPTION) hZ (wd hw 98 rfl) (wd hw 97 rfl) (by decide) (by decide) (fun _ _ => trivial)) (g := (mkF m 400 #[iv i0, iv i1, iv i2, iv i3, iv i4, iv i5, rv ka, rv ra, rv kd, iv tv, iv rq, iv wh, iv hd, iv (2 : Int32), rv r1, rv r2, rv s16, rv s17, rv s18, rv v19, rv v20, rv v21, rv al, .unset, .unset, .unset, .unset] [(.ref s17), (.ref kd), (.ref s16)])) rfl (by rw [hml]; rfl) (argsL := [(.ref s16), (.ref kd), (.ref s17)]) (rest := []) (lenOf pd__Ljava_lang_String_Lcom_example_countersign_countersign_Parameter_Kind_Ljava_lang_String__Lcom_example_countersign_countersign_Parameter_ rfl) rfl (by show 2 * 0 + _ ≤ _; exact Nat.le_of_eq rfl) (hb hby at_400) rfl rfl (by decide) (by decide) (c' := 30) (s' := 365) rfl rfl hS0 (Nat.le_trans (Nat.le_trans hk0 K1.1) K4.1)
    obtain ⟨b7, rfl, Nq7, K7, fq7_0, fq7_1, fq7_2, fq7_3, fq7_4, fq7_5, fq7_6, fq7_7, fq7_8, xq7_fresh_b, wmq7⟩ := hQ7
    have N7 := Fr.app N4 Nq7
    have hZ7 : Z.Warmed39 (s.setVm T7.vm).vm := own_hZ hZs hS7
    have hown7 : (s.setVm T7.vm).vm.findClass ks3 = some m.cls := own_hown howns hS7
    refine own_spV (q := 403) (S' := [(.ref b7)]) st7 ?_
    clear st7
    refine own_stV (T' := T7) (g' := (mkF m 405 #[iv i0, iv i1, iv i2, iv i3, iv i4, iv i5, rv ka, rv ra, rv kd, iv tv, iv rq, iv wh, iv hd, iv (2 : Int32), rv r1, rv r2, rv s16, rv s17, rv s18, rv v19, rv v20, rv v21, rv al, rv b7, .unset, .unset, .unset] [])) (fun _ k_ => XS.astore X7.here hx rfl (hb hby at_403) rfl rfl (l' := #[iv i0, iv i1, iv i2, iv i3, iv i4, iv i5, rv ka, rv ra, rv kd, iv tv, iv rq, iv wh, iv hd, iv (2 : Int32), rv r1, rv r2, rv s16, rv s17, rv s18, rv v19, rv v20, rv v21, rv al, rv b7, .unset, .unset, .unset]) rfl k_) ?_
    have f8 := E_s16.keep K1
    have f9 := f8.keep K4
    have f10 := f9.keep K7
    have f11 := E_s17.keep K1
    have f12 := f11.keep K4
    have f13 := f12.keep K7
    have f14 := E_v19.keep K1
    have f15 := f14.keep K4
    have f16 := f15.keep K7
    have f17 := f2.keep K4
    have f18 := f17.keep K7
    have f19 := fq4_0.keep K7
    have f20 := fq4_1.keep K7 nin0
    have f21 := fq4_2.keep K7 nin0
    have f22 := fq4_3.keep K7 nin0
    have f23 := fq4_4.keep K7 nin0
    have f24 := f6.keep K7 all0
    exact seg_C2 h0 T7.heap n0 i0 i1 i2 i3 i4 i5 ka ra kd tv rq wh hd r1 r2 s16 s17 s18 v19 v20 v21 al w_TEXT w_OPTION w_METHOD w_TARGET w_BODY w_TIME w_NONCE dA clD kO mir em el oe cz b7 t1 (((0 : Int32) + (1 : Int32)) + (1 : Int32)) (X7.mono (by decide) (by decide)) hx hZs hZ7 hS7 (Nat.le_refl _) hw hby hml howns hown7 hnm hret hlk rfl N7 f24 HBs f10 f13 f16 f18 hye X_r1 X_r2 hrq hwn hhd hT1 hT4 hk1 fq7_0 fq7_1 fq7_2 (by rw [hc5]; exact fq7_3) fq7_4 fq7_5 fq7_6 fq7_7 fq7_8 f19 f20 f21 f22 f23
  · refine own_spV (q := 382) (S' := []) (fun _ k_ => XS.ifNo X4.here hx rfl (hb hby at_379) rfl ((if0 _ _).trans (feq hc5).1) k_) ?_
    refine own_spV (q := 384) (S' := [(.ref s16)]) (fun _ k_ => XS.aload X4.here hx rfl (hb hby at_382) rfl rfl  k_) ?_
    refine own_spV (q := 386) (S' := [(.ref kd), (.ref s16)]) (fun _ k_ => XS.aload X4.here hx rfl (hb hby at_384) rfl rfl  k_) ?_
    refine own_spV (q := 388) (S' := [(.ref s17), (.ref kd), (.ref s16)]) (fun _ k_ => XS.aload X4.here hx rfl (hb hby at_386) rfl rfl  k_) ?_
    have f25 := f3.keep K4 (allS f_al (allS (Nat.le_trans (own_z O0) xq1_fresh_t) all0))
    obtain ⟨_, T26, L26, X26, hS26, hW26, hQ26, st26⟩ := own_callSV (Z := Z) X4 hx (y := own_m52) hown (mvT hZ (wd hw 249 rfl)) (mvT hZ (wd hw 250 rfl)) (mvT hZ (wd hw 97 rfl)) (mvT hZ (wd hw 251 rfl)) (by decide) (own_backV (W := 0) (rm_mk_required l Z a0 hw [] s16 kd s17 w_OPTION w_TEXT el oe T4.heap n0 f25 S_el IL_el S_oe X_oe F_oe S_TEXT S_OPTION) hZ (wd hw 251 rfl) (wd hw 97 rfl) (by decide) (by decide) (fun _ _ => trivial)) (g := (mkF m 388 #[iv i0, iv i1, iv i2, iv i3, iv i4, iv i5, rv ka, rv ra, rv kd, iv tv, iv rq, iv wh, iv hd, iv (2 : Int32), rv r1, rv r2, rv s16, rv s17, rv s18, rv v19, rv v20, rv v21, rv al, .unset, .unset, .unset, .unset] [(.ref s17), (.ref kd), (.ref s16)])) rfl (by rw [hml]; rfl) (argsL := [(.ref s16), (.ref kd), (.ref s17)]) (rest := []) (lenOf pd__Ljava_lang_String_Lcom_example_countersign_countersign_Parameter_Kind_Ljava_lang_String__Lcom_example_countersign_countersign_Parameter_ rfl) rfl (by show 2 * 0 + _ ≤ _; exact Nat.le_of_eq rfl) (hb hby at_388) rfl rfl (by decide) (by decide) (c' := 30) (s' := 365) rfl rfl hS0 (Nat.le_trans (Nat.le_trans hk0 K1.1) K4.1)
    obtain ⟨b26, rfl, Nq26, K26, fq26_0, fq26_1, fq26_2, fq26_3, fq26_4, fq26_5, fq26_6, fq26_7, fq26_8, xq26_fresh_b, wmq26⟩ := hQ26
    have N26 := Fr.app N4 Nq26
    have hZ26 : Z.Warmed39 (s.setVm T26.vm).vm := own_hZ hZs hS26
    have hown26 : (s.setVm T26.vm).vm.findClass ks3 = some m.cls := own_hown howns hS26
    refine own_spV (q := 391) (S' := [(.ref b26)]) st26 ?_
    clear st26
    refine own_spV (q := 403) (S' := [(.ref b26)]) (fun _ k_ => XS.goto X26.here hx rfl (pc0 := 391) (pc' := 403) rfl (hb hby at_391) (by decide) (by decide) k_) ?_
    refine own_stV (T' := T26) (g' := (mkF m 405 #[iv i0, iv i1, iv i2, iv i3, iv i4, iv i5, rv ka, rv ra, rv kd, iv tv, iv rq, iv wh, iv hd, iv (2 : Int32), rv r1, rv r2, rv s16, rv s17, rv s18, rv v19, rv v20, rv v21, rv al, rv b26, .unset, .unset, .unset] [])) (fun _ k_ => XS.astore X26.here hx rfl (hb hby at_403) rfl rfl (l' := #[iv i0, iv i1, iv i2, iv i3, iv i4, iv i5, rv ka, rv ra, rv kd, iv tv, iv rq, iv wh, iv hd, iv (2 : Int32), rv r1, rv r2, rv s16, rv s17, rv s18, rv v19, rv v20, rv v21, rv al, rv b26, .unset, .unset, .unset]) rfl k_) ?_
    have f27 := E_s16.keep K1
    have f28 := f27.keep K4
    have f29 := f28.keep K26
    have f30 := E_s17.keep K1
    have f31 := f30.keep K4
    have f32 := f31.keep K26
    have f33 := E_v19.keep K1
    have f34 := f33.keep K4
    have f35 := f34.keep K26
    have f36 := f2.keep K4
    have f37 := f36.keep K26
    have f38 := fq4_0.keep K26
    have f39 := fq4_1.keep K26 nin0
    have f40 := fq4_2.keep K26 nin0
    have f41 := fq4_3.keep K26 nin0
    have f42 := fq4_4.keep K26 nin0
    have f43 := f25.keep K26 all0
    exact seg_C2 h0 T26.heap n0 i0 i1 i2 i3 i4 i5 ka ra kd tv rq wh hd r1 r2 s16 s17 s18 v19 v20 v21 al w_TEXT w_OPTION w_METHOD w_TARGET w_BODY w_TIME w_NONCE dA clD kO mir em el oe cz b26 t1 (((0 : Int32) + (1 : Int32)) + (1 : Int32)) (X26.mono (by decide) (by decide)) hx hZs hZ26 hS26 (Nat.le_refl _) hw hby hml howns hown26 hnm hret hlk rfl N26 f43 HBs f29 f32 f35 f37 hye X_r1 X_r2 hrq hwn hhd hT1 hT4 hk1 fq26_0 fq26_1 fq26_2 (by rw [hrq.resolve_left hc5]; exact fq26_3) fq26_4 fq26_5 fq26_6 fq26_7 fq26_8 f38 f39 f40 f41 f42
theorem seg_C3 (h0 : Heap) (hB : Heap) (n0 : Nat) (i0 : Int32) (i1 : Int32) (i2 : Int32) (i3 : Int32) (i4 : Int32) (i5 : Int32) (ka : Addr) (ra : Addr) (kd : Addr) (tv : Int32) (rq : Int32) (wh : Int32) (hd : Int32) (r1 : Addr) (r2 : Addr) (s16 : Addr) (s17 : Addr) (s18 : Addr) (v19 : Addr) (v20 : Addr) (v21 : Addr) (al : Addr) (w_TEXT : Addr) (w_OPTION : Addr) (w_METHOD : Addr) (w_TARGET : Addr) (w_BODY : Addr) (w_TIME : Addr) (w_NONCE : Addr) (dA : Addr) (clD : Cell) (kO : ClassId) (mir : Addr) (em : Addr) (el : Addr) (oe : Addr) (cz : Int32) (p_ : Addr) (t : Addr) (mc : Int32)
    (X0 : Stand p l e room_1 (s.setVm vm0) m args below meth c T0 locs 30 376) (hx : p.tables.exec = Jvm.exec) (hZs : Z.Warmed39 s.vm) (hZ : Z.Warmed39 (s.setVm vm0).vm) (hS0 : s.Since vm0 k0) (hk0 : k0 ≤ hB.size) (hw : own_HW a0 Z) (hby : c.code = code) (hml : c.maxLocals = 27) (howns : s.vm.findClass ks3 = some m.cls) (hown : (s.setVm vm0).vm.findClass ks3 = some m.cls) (hnm : meth.name = "law") (hret : meth.sig.returnType = some .boolean) (hlk : meth.locks = false) (e0 : T0.heap = hB) (N0 : Fr n0 locs) (O0 : Old Z n0 hB) (HBs : own_Bs Z w_TEXT w_OPTION w_METHOD w_TARGET w_BODY w_TIME w_NONCE dA clD kO mir em el oe cz) (E_s16 : Exa Z hB s16 ks10) (E_s17 : Exa Z hB s17 ks10) (E_v19 : Exa Z hB v19 ks10) (E_v20 : Exa Z hB v20 ks10) (E_v21 : Exa Z hB v21 ks10) (X_r1 : Exa Z Z.heap r1 ks1) (X_r2 : Exa Z Z.heap r2 ks1) (hrq : own_B rq) (hwn : own_B wh) (hhd : own_B hd) (hT1 : ¬ wh = (0 : Int32) → kd = w_TEXT) (hT4 : ¬ hd = (0 : Int32) → kd = w_TEXT) (hk1 : kd = w_TEXT) (PP0 : Exa Z hB p_ ks0) (PP1 : Fld Z hB p_ ks0 "name" ks13 (.ref s16)) (PP2 : Fld Z hB p_ ks0 "kind" ks5 (.ref kd)) (PP3 : Fld Z hB p_ ks0 ks23 "Z" (.int rq)) (PP4 : Fld Z hB p_ ks0 ks21 ks13 (.ref s17)) (PP5 : Fld Z hB p_ ks0 "choices" ks16 (.ref el)) (PP6 : Fld Z hB p_ ks0 ks22 "Z" (.int (0 : Int32))) (PP7 : Fld Z hB p_ ks0 "role" ks7 (.ref w_OPTION)) (PP8 : Fld Z hB p_ ks0 "header" ks15 (.ref oe)) (AL0 : Exa Z hB al ks6) (AL1 : Fld Z hB al ks6 ks20 ks8 (.ref t)) (AL2 : Fld Z hB al ks6 "size" "I" (.int (3 : Int32))) (AL3 : Fld Z hB al ks17 "modCount" "I" (.int mc)) (AL4 : Arv Z hB t kO (.object ks2) (10 : Int32) [(.ref v19), (.ref v20), (.ref v21), .null, .null, .null, .null, .null, .null, .null] .null) :
    own_V p e below s room_1.cells room_1.slots (fun v h L _ => own_L n0 v h L) T0 (mkF m 405 #[iv i0, iv i1, iv i2, iv i3, iv i4, iv i5, rv ka, rv ra, rv kd, iv tv, iv rq, iv wh, iv hd, iv (3 : Int32), rv r1, rv r2, rv s16, rv s17, rv s18, rv v19, rv v20, rv v21, rv al, rv p_, .unset, .unset, .unset] []) := by
  obtain ⟨S_TEXT, S_OPTION, X_OPTION, S_METHOD, X_METHOD, S_TARGET, X_TARGET, S_BODY, X_BODY, S_TIME, X_TIME, S_NONCE, X_NONCE, SDe, AD, LD, OV, FC, MIR, SEm, X_em, S_el, IL_el, S_oe, X_oe, F_oe, SC, hcz⟩ := id HBs
  refine own_stV (T' := T0) (g' := (mkF m 407 #[iv i0, iv i1, iv i2, iv i3, iv i4, iv i5, rv ka, rv ra, rv kd, iv tv, iv rq, iv wh, iv hd, iv (3 : Int32), rv r1, rv r2, rv s16, rv s17, rv s18, rv v19, rv v20, rv v21, rv al, rv p_, .unset, .unset, .unset] [(.int (3 : Int32))])) (fun _ k_ => XS.iload X0.here hx rfl (hb hby at_405) rfl  k_) ?_
  refine own_spV (q := 410) (S' := []) (fun _ k_ => XS.ifNo X0.here hx rfl (hb hby at_407) rfl ((if0 _ _).trans (tlt (by decide : (0 : Int32) < (3 : Int32))).2.2.2) k_) ?_
  refine own_spV (q := 412) (S' := [(.ref p_)]) (fun _ k_ => XS.aload X0.here hx rfl (hb hby at_410) rfl rfl  k_) ?_
  refine own_spV (q := 414) (S' := [(.ref al), (.ref p_)]) (fun _ k_ => XS.aload X0.here hx rfl (hb hby at_412) rfl rfl  k_) ?_
  obtain ⟨cq1, kq1, q1a, q1b, q1c⟩ := isOf hZ e0 PP0
  obtain ⟨_, T1, L1, X1, hS1, hW1, hQ1, st1⟩ := own_callVV (Z := Z) X0 hx (y := own_m50) (z := own_m50) hown (mvT hZ (wd hw 283 rfl)) (mvT hZ (wd hw 284 rfl)) (notFace_of_selects (args := #[]) (mvT hZ (wd hw 286 rfl))) (mvT hZ (wd hw 286 rfl)) (mvT hZ (wd hw 285 rfl)) (by decide) (own_backV (W := 0) (rm_wch l Z a0 hw [] p_ s16 kd rq s17 (0 : Int32) w_OPTION oe .null w_TEXT al (own_LQ3 Z kO v19 v20 v21) hB n0 O0 PP1 PP2 PP3 PP4 PP6 PP7 PP8 (X_oe.ext O0.2) (F_oe.ext O0.2) rfl hrq (Or.inl rfl) (fun q => absurd rfl q) (fun q => absurd rfl q) S_TEXT hk1 (own_CP3 hw AL0 AL1 AL2 AL4 OV FC MIR (Ins.of_exa E_v19 (wd hw 282 rfl)) (Ins.of_exa E_v20 (wd hw 282 rfl)) (Ins.of_exa E_v21 (wd hw 282 rfl))) own_LQC3) hZ (wd hw 287 rfl) (wd hw 97 rfl) (by decide) (by decide) (fun _ _ => trivial)) q1a q1c (g := (mkF m 414 #[iv i0, iv i1, iv i2, iv i3, iv i4, iv i5, rv ka, rv ra, rv kd, iv tv, iv rq, iv wh, iv hd, iv (3 : Int32), rv r1, rv r2, rv s16, rv s17, rv s18, rv v19, rv v20, rv v21, rv al, rv p_, .unset, .unset, .unset] [(.ref al), (.ref p_)])) rfl (by rw [hml]; rfl) (argsL := [(.ref al)]) (rest := []) (lenOf pd__Ljava_util_List__Lcom_example_countersign_countersign_Parameter_ rfl) rfl (by show 2 * 0 + _ ≤ _; exact Nat.le_of_eq rfl) (hb hby at_414) rfl e0 (by decide) (by decide) (c' := 44) (s' := 694) rfl rfl hS0 hk0
  clear q1a q1b q1c kq1 cq1
  obtain ⟨b1, x1, rfl, Nq1, K1, fq1_0, fq1_1, fq1_2, fq1_3, fq1_4, fq1_5, fq1_6, fq1_7, fq1_8, xq1_fresh_b, xq1_LQx, wmq1⟩ := hQ1
  have N1 := Fr.app N0 Nq1
  have hZ1 : Z.Warmed39 (s.setVm T1.vm).vm := own_hZ hZs hS1
  have hown1 : (s.setVm T1.vm).vm.findClass ks3 = some m.cls := own_hown howns hS1
  refine own_spV (q := 417) (S' := [(.ref b1)]) st1 ?_
  clear st1
  obtain ⟨uu1, lq1_0, lq1_1, lq1_2, lq1_3, -⟩ := id xq1_LQx
  refine own_stV (T' := T1) (g' := (mkF m 419 #[iv i0, iv i1, iv i2, iv i3, iv i4, iv i5, rv ka, rv ra, rv kd, iv tv, iv rq, iv wh, iv hd, iv (3 : Int32), rv r1, rv r2, rv s16, rv s17, rv s18, rv v19, rv v20, rv v21, rv al, rv b1, .unset, .unset, .unset] [])) (fun _ k_ => XS.astore X1.here hx rfl (hb hby at_417) rfl rfl (l' := #[iv i0, iv i1, iv i2, iv i3, iv i4, iv i5, rv ka, rv ra, rv kd, iv tv, iv rq, iv wh, iv hd, iv (3 : Int32), rv r1, rv r2, rv s16, rv s17, rv s18, rv v19, rv v20, rv v21, rv al, rv b1, .unset, .unset, .unset]) rfl k_) ?_
  have il2 : own_IL Z T1.heap x1 (0 : Int32) := (own_ILn lq1_0 lq1_2 lq1_1 lq1_3 (by decide))
  have hkt_ : (0 : Int32) = (0 : Int32) → kd = w_TEXT := fun _ => hk1
  refine own_spV (q := 421) (S' := [(.int wh)]) (fun _ k_ => XS.iload X1.here hx rfl (hb hby at_419) rfl  k_) ?_
  by_cases hc3 : wh = (0 : Int32)
  · refine own_spV (q := 431) (S' := []) (fun _ k_ => XS.ifYes X1.here hx rfl (pc0 := 421) (pc' := 431) rfl (hb hby at_421) rfl ((if0 _ _).trans (teq hc3).1) (by decide) (by decide) k_) ?_
    have f4 := E_v19.keep K1
    have f5 := E_v20.keep K1
    have f6 := E_v21.keep K1
    have f7 := E_s16.keep K1
    have f8 := E_s17.keep K1
    have f9 := O0.keep K1 all0
    exact seg_F h0 T1.heap n0 i0 i1 i2 i3 i4 i5 ka ra kd tv rq wh hd (3 : Int32) r1 r2 s16 s17 s18 v19 v20 v21 al w_TEXT w_OPTION w_METHOD w_TARGET w_BODY w_TIME w_NONCE dA clD kO mir em el oe cz b1 x1 (0 : Int32) (fun h => (Exa Z h v19 ks10) ∧ (Exa Z h v20 ks10) ∧ (Exa Z h v21 ks10) ∧ (Exa Z h x1 ks11) ∧ (Fld Z h x1 ks11 "elements" ks8 (.ref uu1)) ∧ (Arv Z h uu1 kO (.object ks2) (3 : Int32) [(.ref v19), (.ref v20), (.ref v21)] .null) ∧ True) (X1.mono (by decide) (by decide)) hx hZs hZ1 hS1 (Nat.le_refl _) hw hby hml howns hown1 hnm hret hlk rfl N1 f9 HBs f7 f8 X_r1 X_r2 hrq hwn hhd hT1 hT4 hkt_ fq1_0 fq1_1 fq1_2 fq1_3 fq1_4 fq1_5 (by rw [hc3]; exact fq1_6) fq1_7 fq1_8 il2 (fun h_ h1_ E_ q_ => by obtain ⟨q0_, q1_, q2_, q3_, q4_, q5_, -⟩ := q_; exact ⟨q0_.ext E_, q1_.ext E_, q2_.ext E_, q3_.ext E_, q4_.ext E_, q5_.ext E_, trivial⟩) ⟨f4, f5, f6, lq1_0, lq1_1, lq1_3, trivial⟩ (fun p2 q_ h_ vm_ k_ T_ locs_ X_ hZ_ hown_ hS_ hk_ e_ N_ O_ F_q E_q L_ => by
      obtain ⟨L0_, L1_, L2_, L3_, L4_, L5_, -⟩ := L_
      exact seg_H3 h0 h_ n0 i0 i1 i2 i3 i4 i5 ka ra kd tv rq wh hd (3 : Int32) r1 r2 s16 s17 s18 v19 v20 v21 al w_TEXT w_OPTION w_METHOD w_TARGET w_BODY w_TIME w_NONCE dA clD kO mir em el oe cz p2 q_ x1 uu1 X_ hx hZs hZ_ hS_ hk_ hw hby hml howns hown_ hnm hret hlk e_ N_ O_ HBs L0_ L1_ L2_ F_q E_q L3_ L4_ L5_)
  · refine own_spV (q := 424) (S' := []) (fun _ k_ => XS.ifNo X1.here hx rfl (hb hby at_421) rfl ((if0 _ _).trans (feq hc3).1) k_) ?_
    refine own_spV (q := 426) (S' := [(.ref b1)]) (fun _ k_ => XS.aload X1.here hx rfl (hb hby at_424) rfl rfl  k_) ?_
    have f10 := O0.keep K1 all0
    obtain ⟨cq11, kq11, q11a, q11b, q11c⟩ := isOf hZ1 rfl fq1_0
    obtain ⟨_, T11, L11, X11, hS11, hW11, hQ11, st11⟩ := own_callVV (Z := Z) X1 hx (y := own_m48) (z := own_m48) hown1 (mvT hZ1 (wd hw 367 rfl)) (mvT hZ1 (wd hw 368 rfl)) (notFace_of_selects (args := #[]) (mvT hZ1 (wd hw 370 rfl))) (mvT hZ1 (wd hw 370 rfl)) (mvT hZ1 (wd hw 369 rfl)) (by decide) (own_backV (W := 0) (rm_whn l Z a0 hw [] b1 s16 kd rq s17 w_OPTION oe .null w_TEXT x1 (0 : Int32) T1.heap n0 f10 fq1_1 fq1_2 fq1_3 fq1_4 fq1_5 fq1_6 fq1_7 fq1_8 (X_oe.ext f10.2) (F_oe.ext f10.2) rfl hrq (hT1 hc3) (fun q => absurd rfl q) S_TEXT il2 hkt_) hZ1 (wd hw 371 rfl) (wd hw 97 rfl) (by decide) (by decide) (fun _ _ => trivial)) q11a q11c (g := (mkF m 426 #[iv i0, iv i1, iv i2, iv i3, iv i4, iv i5, rv ka, rv ra, rv kd, iv tv, iv rq, iv wh, iv hd, iv (3 : Int32), rv r1, rv r2, rv s16, rv s17, rv s18, rv v19, rv v20, rv v21, rv al, rv b1, .unset, .unset, .unset] [(.ref b1)])) rfl (by rw [hml]; rfl) (argsL := []) (rest := []) (lenOf pd___Lcom_example_countersign_countersign_Parameter_ rfl) rfl (by show 2 * 0 + _ ≤ _; exact Nat.le_of_eq rfl) (hb hby at_426) rfl rfl (by decide) (by decide) (c' := 55) (s' := 998) rfl rfl hS1 (Nat.le_refl _)
    clear q11a q11b q11c kq11 cq11
    obtain ⟨b11, rfl, Nq11, K11, fq11_0, fq11_1, fq11_2, fq11_3, fq11_4, fq11_5, fq11_6, fq11_7, fq11_8, xq11_fresh_b, wmq11⟩ := hQ11
    have N11 := Fr.app N1 Nq11
    have hZ11 : Z.Warmed39 (s.setVm T11.vm).vm := own_hZ hZs hS11
    have hown11 : (s.setVm T11.vm).vm.findClass ks3 = some m.cls := own_hown howns hS11
    refine own_spV (q := 429) (S' := [(.ref b11)]) st11 ?_
    clear st11
    refine own_stV (T' := T11) (g' := (mkF m 431 #[iv i0, iv i1, iv i2, iv i3, iv i4, iv i5, rv ka, rv ra, rv kd, iv tv, iv rq, iv wh, iv hd, iv (3 : Int32), rv r1, rv r2, rv s16, rv s17, rv s18, rv v19, rv v20, rv v21, rv al, rv b11, .unset, .unset, .unset] [])) (fun _ k_ => XS.astore X11.here hx rfl (hb hby at_429) rfl rfl (l' := #[iv i0, iv i1, iv i2, iv i3, iv i4, iv i5, rv ka, rv ra, rv kd, iv tv, iv rq, iv wh, iv hd, iv (3 : Int32), rv r1, rv r2, rv s16, rv s17, rv s18, rv v19, rv v20, rv v21, rv al, rv b11, .unset, .unset, .unset]) rfl k_) ?_
    have f12 := E_v19.keep K1
    have f13 := f12.keep K11
    have f14 := E_v20.keep K1
    have f15 := f14.keep K11
    have f16 := E_v21.keep K1
    have f17 := f16.keep K11
    have f18 := lq1_0.keep K11
    have f19 := lq1_1.keep K11 nin0
    have f20 := lq1_3.keep K11 nin0
    have f21 := E_s16.keep K1
    have f22 := f21.keep K11
    have f23 := E_s17.keep K1
    have f24 := f23.keep K11
    have f25 := own_ILk il2 K11
    have f26 := f10.keep K11 all0
    exact seg_F h0 T11.heap n0 i0 i1 i2 i3 i4 i5 ka ra kd tv rq wh hd (3 : Int32) r1 r2 s16 s17 s18 v19 v20 v21 al w_TEXT w_OPTION w_METHOD w_TARGET w_BODY w_TIME w_NONCE dA clD kO mir em el oe cz b11 x1 (0 : Int32) (fun h => (Exa Z h v19 ks10) ∧ (Exa Z h v20 ks10) ∧ (Exa Z h v21 ks10) ∧ (Exa Z h x1 ks11) ∧ (Fld Z h x1 ks11 "elements" ks8 (.ref uu1)) ∧ (Arv Z h uu1 kO (.object ks2) (3 : Int32) [(.ref v19), (.ref v20), (.ref v21)] .null) ∧ True) (X11.mono (by decide) (by decide)) hx hZs hZ11 hS11 (Nat.le_refl _) hw hby hml howns hown11 hnm hret hlk rfl N11 f26 HBs f22 f24 X_r1 X_r2 hrq hwn hhd hT1 hT4 hkt_ fq11_0 fq11_1 fq11_2 fq11_3 fq11_4 fq11_5 (by rw [hwn.resolve_left hc3]; exact fq11_6) fq11_7 fq11_8 f25 (fun h_ h1_ E_ q_ => by obtain ⟨q0_, q1_, q2_, q3_, q4_, q5_, -⟩ := q_; exact ⟨q0_.ext E_, q1_.ext E_, q2_.ext E_, q3_.ext E_, q4_.ext E_, q5_.ext E_, trivial⟩) ⟨f13, f15, f17, f18, f19, f20, trivial⟩ (fun p2 q_ h_ vm_ k_ T_ locs_ X_ hZ_ hown_ hS_ hk_ e_ N_ O_ F_q E_q L_ => by
      obtain ⟨L0_, L1_, L2_, L3_, L4_, L5_, -⟩ := L_
      exact seg_H3 h0 h_ n0 i0 i1 i2 i3 i4 i5 ka ra kd tv rq wh hd (3 : Int32) r1 r2 s16 s17 s18 v19 v20 v21 al w_TEXT w_OPTION w_METHOD w_TARGET w_BODY w_TIME w_NONCE dA clD kO mir em el oe cz p2 q_ x1 uu1 X_ hx hZs hZ_ hS_ hk_ hw hby hml howns hown_ hnm hret hlk e_ N_ O_ HBs L0_ L1_ L2_ F_q E_q L3_ L4_ L5_)
theorem seg_B3 (h0 : Heap) (hB : Heap) (n0 : Nat) (i0 : Int32) (i1 : Int32) (i2 : Int32) (i3 : Int32) (i4 : Int32) (i5 : Int32) (ka : Addr) (ra : Addr) (kd : Addr) (tv : Int32) (rq : Int32) (wh : Int32) (hd : Int32) (r1 : Addr) (r2 : Addr) (s16 : Addr) (s17 : Addr) (s18 : Addr) (v19 : Addr) (v20 : Addr) (v21 : Addr) (al : Addr) (w_TEXT : Addr) (w_OPTION : Addr) (w_METHOD : Addr) (w_TARGET : Addr) (w_BODY : Addr) (w_TIME : Addr) (w_NONCE : Addr) (dA : Addr) (clD : Cell) (kO : ClassId) (mir : Addr) (em : Addr) (el : Addr) (oe : Addr) (cz : Int32)
    (X0 : Stand p l e room_1 (s.setVm vm0) m args below meth c T0 locs 18 51) (hx : p.tables.exec = Jvm.exec) (hZs : Z.Warmed39 s.vm) (hZ : Z.Warmed39 (s.setVm vm0).vm) (hS0 : s.Since vm0 k0) (hk0 : k0 ≤ hB.size) (hw : own_HW a0 Z) (hby : c.code = code) (hml : c.maxLocals = 27) (howns : s.vm.findClass ks3 = some m.cls) (hown : (s.setVm vm0).vm.findClass ks3 = some m.cls) (hnm : meth.name = "law") (hret : meth.sig.returnType = some .boolean) (hlk : meth.locks = false) (e0 : T0.heap = hB) (N0 : Fr n0 locs) (O0 : Old Z n0 hB) (HBs : own_Bs Z w_TEXT w_OPTION w_METHOD w_TARGET w_BODY w_TIME w_NONCE dA clD kO mir em el oe cz) (E_s16 : Exa Z hB s16 ks10) (E_s17 : Exa Z hB s17 ks10) (E_v19 : Exa Z hB v19 ks10) (E_v20 : Exa Z hB v20 ks10) (E_v21 : Exa Z hB v21 ks10) (X_r1 : Exa Z Z.heap r1 ks1) (X_r2 : Exa Z Z.heap r2 ks1) (hrq : own_B rq) (hwn : own_B wh) (hhd : own_B hd) (hT1 : ¬ wh = (0 : Int32) → kd = w_TEXT) (hT4 : ¬ hd = (0 : Int32) → kd = w_TEXT) (hk1 : kd = w_TEXT) (AL0 : Exa Z hB al ks6) (AL1 : Fld Z hB al ks6 ks20 ks8 (.ref dA)) (AL2 : Fld Z hB al ks6 "size" "I" (.int (0 : Int32))) (AL3 : Fld Z hB al ks17 "modCount" "I" (.int (0 : Int32))) (f_al : n0 ≤ al) :
    own_V p e below s room_1.cells room_1.slots (fun v h L _ => own_L n0 v h L) T0 (mkF m 335 #[iv i0, iv i1, iv i2, iv i3, iv i4, iv i5, rv ka, rv ra, rv kd, iv tv, iv rq, iv wh, iv hd, iv (3 : Int32), rv r1, rv r2, rv s16, rv s17, rv s18, rv v19, rv v20, rv v21, rv al, .unset, .unset, .unset, .unset] []) := by
  obtain ⟨S_TEXT, S_OPTION, X_OPTION, S_METHOD, X_METHOD, S_TARGET, X_TARGET, S_BODY, X_BODY, S_TIME, X_TIME, S_NONCE, X_NONCE, SDe, AD, LD, OV, FC, MIR, SEm, X_em, S_el, IL_el, S_oe, X_oe, F_oe, SC, hcz⟩ := id HBs
  refine own_stV (T' := T0) (g' := (mkF m 337 #[iv i0, iv i1, iv i2, iv i3, iv i4, iv i5, rv ka, rv ra, rv kd, iv tv, iv rq, iv wh, iv hd, iv (3 : Int32), rv r1, rv r2, rv s16, rv s17, rv s18, rv v19, rv v20, rv v21, rv al, .unset, .unset, .unset, .unset] [(.int (3 : Int32))])) (fun _ k_ => XS.iload X0.here hx rfl (hb hby at_335) rfl  k_) ?_
  refine own_spV (q := 338) (S' := [(.int (1 : Int32)), (.int (3 : Int32))]) (fun _ k_ => XS.iconst X0.here hx rfl (hb hby at_337) k_) ?_
  refine own_spV (q := 341) (S' := []) (fun _ k_ => XS.icmpNo X0.here hx rfl (hb hby at_338) rfl (flt (by decide : ¬ ((3 : Int32) < (1 : Int32)))).1 k_) ?_
  refine own_spV (q := 343) (S' := [(.ref al)]) (fun _ k_ => XS.aload X0.here hx rfl (hb hby at_341) rfl rfl  k_) ?_
  refine own_spV (q := 345) (S' := [(.ref v19), (.ref al)]) (fun _ k_ => XS.aload X0.here hx rfl (hb hby at_343) rfl rfl  k_) ?_
  refine own_kcV own_ckV X0 hx hZ hown hml (y := own_m16) (wd hw 252 rfl) (wd hw 253 rfl) (wd hw 255 rfl) (wd hw 254 rfl) (wd hw 73 rfl) (wd hw 256 rfl) (by decide) AL0 (rm_add_0 l Z a0 hw [] al v19 (0 : Int32) dA clD kO hB n0 O0 AL0 AL1 AL2 AL3 f_al SDe AD LD OV FC (Ins.of_exa E_v19 (wd hw 282 rfl))) (by decide) (by decide) (W := 0) (Nat.le_of_eq rfl) (argsL := [(.ref v19)]) (rest := []) (lenOf pd__Ljava_lang_Object__Z rfl) rfl rfl (hb hby at_345) rfl e0 (by decide) (by decide) (c' := 19) (s' := 61) rfl rfl (q := 348) rfl fun _ T1 L1 X1 hQ1 => ?_
  obtain ⟨t1, rfl, Nq1, K1, fq1_0, fq1_1, fq1_2, fq1_3, fq1_4, xq1_fresh_t⟩ := hQ1
  have N1 := Fr.app N0 Nq1
  show own_V p e below s _ _ _ T1 (mkF m 348 _ [(.int (1 : Int32))])
  refine own_spV (q := 349) (S' := []) (fun _ k_ => XS.pop X1.here hx rfl (hb hby at_348) rfl rfl k_) ?_
  refine own_spV (q := 351) (S' := [(.int (3 : Int32))]) (fun _ k_ => XS.iload X1.here hx rfl (hb hby at_349) rfl  k_) ?_
  refine own_spV (q := 352) (S' := [(.int (2 : Int32)), (.int (3 : Int32))]) (fun _ k_ => XS.iconst X1.here hx rfl (hb hby at_351) k_) ?_
  refine own_spV (q := 355) (S' := []) (fun _ k_ => XS.icmpNo X1.here hx rfl (hb hby at_352) rfl (flt (by decide : ¬ ((3 : Int32) < (2 : Int32)))).1 k_) ?_
  refine own_spV (q := 357) (S' := [(.ref al)]) (fun _ k_ => XS.aload X1.here hx rfl (hb hby at_355) rfl rfl  k_) ?_
  refine own_spV (q := 359) (S' := [(.ref v20), (.ref al)]) (fun _ k_ => XS.aload X1.here hx rfl (hb hby at_357) rfl rfl  k_) ?_
  have f2 := E_v20.keep K1
  have f3 := O0.keep K1 (allS f_al all0)
  refine own_kcV own_ckV X1 hx hZ hown hml (y := own_m16) (wd hw 252 rfl) (wd hw 253 rfl) (wd hw 255 rfl) (wd hw 254 rfl) (wd hw 73 rfl) (wd hw 256 rfl) (by decide) fq1_0 (rm_add_1 l Z a0 hw [] al v20 t1 ((0 : Int32) + (1 : Int32)) kO (.ref v19) T1.heap n0 f3 fq1_0 fq1_1 fq1_2 fq1_3 fq1_4 f_al (Nat.le_trans (own_z O0) xq1_fresh_t) OV FC (Ins.of_exa f2 (wd hw 282 rfl))) (by decide) (by decide) (W := 0) (Nat.le_of_eq rfl) (argsL := [(.ref v20)]) (rest := []) (lenOf pd__Ljava_lang_Object__Z rfl) rfl rfl (hb hby at_359) rfl rfl (by decide) (by decide) (c' := 19) (s' := 61) rfl rfl (q := 362) rfl fun _ T4 L4 X4 hQ4 => ?_
  obtain ⟨rfl, Nq4, K4, fq4_0, fq4_1, fq4_2, fq4_3, fq4_4⟩ := hQ4
  have N4 := Fr.app N1 Nq4
  show own_V p e below s _ _ _ T4 (mkF m 362 _ [(.int (1 : Int32))])
  refine own_spV (q := 363) (S' := []) (fun _ k_ => XS.pop X4.here hx rfl (hb hby at_362) rfl rfl k_) ?_
  refine own_spV (q := 365) (S' := [(.int (3 : Int32))]) (fun _ k_ => XS.iload X4.here hx rfl (hb hby at_363) rfl  k_) ?_
  refine own_spV (q := 366) (S' := [(.int (3 : Int32)), (.int (3 : Int32))]) (fun _ k_ => XS.iconst X4.here hx rfl (hb hby at_365) k_) ?_
  refine own_spV (q := 369) (S' := []) (fun _ k_ => XS.icmpNo X4.here hx rfl (hb hby at_366) rfl (flt (by decide : ¬ ((3 : Int32) < (3 : Int32)))).1 k_) ?_
  refine own_spV (q := 371) (S' := [(.ref al)]) (fun _ k_ => XS.aload X4.here hx rfl (hb hby at_369) rfl rfl  k_) ?_
  refine own_spV (q := 373) (S' := [(.ref v21), (.ref al)]) (fun _ k_ => XS.aload X4.here hx rfl (hb hby at_371) rfl rfl  k_) ?_
  have f5 := E_v21.keep K1
  have f6 := f5.keep K4
  have f7 := f3.keep K4 (allS f_al (allS (Nat.le_trans (own_z O0) xq1_fresh_t) all0))
  refine own_kcV own_ckV X4 hx hZ hown hml (y := own_m16) (wd hw 252 rfl) (wd hw 253 rfl) (wd hw 255 rfl) (wd hw 254 rfl) (wd hw 73 rfl) (wd hw 256 rfl) (by decide) fq4_0 (rm_add_2 l Z a0 hw [] al v21 t1 (((0 : Int32) + (1 : Int32)) + (1 : Int32)) kO (.ref v19) (.ref v20) T4.heap n0 f7 fq4_0 fq4_1 fq4_2 fq4_3 fq4_4 f_al (Nat.le_trans (own_z O0) xq1_fresh_t) OV FC (Ins.of_exa f6 (wd hw 282 rfl))) (by decide) (by decide) (W := 0) (Nat.le_of_eq rfl) (argsL := [(.ref v21)]) (rest := []) (lenOf pd__Ljava_lang_Object__Z rfl) rfl rfl (hb hby at_373) rfl rfl (by decide) (by decide) (c' := 19) (s' := 61) rfl rfl (q := 376) rfl fun _ T8 L8 X8 hQ8 => ?_
  obtain ⟨rfl, Nq8, K8, fq8_0, fq8_1, fq8_2, fq8_3, fq8_4⟩ := hQ8
  have N8 := Fr.app N4 Nq8
  show own_V p e below s _ _ _ T8 (mkF m 376 _ [(.int (1 : Int32))])
  refine own_spV (q := 377) (S' := []) (fun _ k_ => XS.pop X8.here hx rfl (hb hby at_376) rfl rfl k_) ?_
  refine own_spV (q := 379) (S' := [(.int rq)]) (fun _ k_ => XS.iload X8.here hx rfl (hb hby at_377) rfl  k_) ?_
  by_cases hc9 : rq = (0 : Int32)
  · refine own_spV (q := 394) (S' := []) (fun _ k_ => XS.ifYes X8.here hx rfl (pc0 := 379) (pc' := 394) rfl (hb hby at_379) rfl ((if0 _ _).trans (teq hc9).1) (by decide) (by decide) k_) ?_
    refine own_spV (q := 396) (S' := [(.ref s16)]) (fun _ k_ => XS.aload X8.here hx rfl (hb hby at_394) rfl rfl  k_) ?_
    refine own_spV (q := 398) (S' := [(.ref kd), (.ref s16)]) (fun _ k_ => XS.aload X8.here hx rfl (hb hby at_396) rfl rfl  k_) ?_
    refine own_spV (q := 400) (S' := [(.ref s17), (.ref kd), (.ref s16)]) (fun _ k_ => XS.aload X8.here hx rfl (hb hby at_398) rfl rfl  k_) ?_
    have f10 := f7.keep K8 (allS f_al (allS (Nat.le_trans (own_z O0) xq1_fresh_t) all0))
    obtain ⟨_, T11, L11, X11, hS11, hW11, hQ11, st11⟩ := own_callSV (Z := Z) X8 hx (y := own_m51) hown (mvT hZ (wd hw 95 rfl)) (mvT hZ (wd hw 96 rfl)) (mvT hZ (wd hw 97 rfl)) (mvT hZ (wd hw 98 rfl)) (by decide) (own_backV (W := 0) (rm_mk_optional l Z a0 hw [] s16 kd s17 w_OPTION w_TEXT el oe T8.heap n0 f10 S_el IL_el S_oe X_oe F_oe S_TEXT S_OPTION) hZ (wd hw 98 rfl) (wd hw 97 rfl) (by decide) (by decide) (fun _ _ => trivial)) (g := (mkF m 400 #[iv i0, iv i1, iv i2, iv i3, iv i4, iv i5, rv ka, rv ra, rv kd, iv tv, iv rq, iv wh, iv hd, iv (3 : Int32), rv r1, rv r2, rv s16, rv s17, rv s18, rv v19, rv v20, rv v21, rv al, .unset, .unset, .unset, .unset] [(.ref s17), (.ref kd), (.ref s16)])) rfl (by rw [hml]; rfl) (argsL := [(.ref s16), (.ref kd), (.ref s17)]) (rest := []) (lenOf pd__Ljava_lang_String_Lcom_example_countersign_countersign_Parameter_Kind_Ljava_lang_String__Lcom_example_countersign_countersign_Parameter_ rfl) rfl (by show 2 * 0 + _ ≤ _; exact Nat.le_of_eq rfl) (hb hby at_400) rfl rfl (by decide) (by decide) (c' := 30) (s' := 365) rfl rfl hS0 (Nat.le_trans (Nat.le_trans (Nat.le_trans hk0 K1.1) K4.1) K8.1)
    obtain ⟨b11, rfl, Nq11, K11, fq11_0, fq11_1, fq11_2, fq11_3, fq11_4, fq11_5, fq11_6, fq11_7, fq11_8, xq11_fresh_b, wmq11⟩ := hQ11
    have N11 := Fr.app N8 Nq11
    have hZ11 : Z.Warmed39 (s.setVm T11.vm).vm := own_hZ hZs hS11
    have hown11 : (s.setVm T11.vm).vm.findClass ks3 = some m.cls := own_hown howns hS11
    refine own_spV (q := 403) (S' := [(.ref b11)]) st11 ?_
    clear st11
    refine own_stV (T' := T11) (g' := (mkF m 405 #[iv i0, iv i1, iv i2, iv i3, iv i4, iv i5, rv ka, rv ra, rv kd, iv tv, iv rq, iv wh, iv hd, iv (3 : Int32), rv r1, rv r2, rv s16, rv s17, rv s18, rv v19, rv v20, rv v21, rv al, rv b11, .unset, .unset, .unset] [])) (fun _ k_ => XS.astore X11.here hx rfl (hb hby at_403) rfl rfl (l' := #[iv i0, iv i1, iv i2, iv i3, iv i4, iv i5, rv ka, rv ra, rv kd, iv tv, iv rq, iv wh, iv hd, iv (3 : Int32), rv r1, rv r2, rv s16, rv s17, rv s18, rv v19, rv v20, rv v21, rv al, rv b11, .unset, .unset, .unset]) rfl k_) ?_
    have f12 := E_s16.keep K1
    have f13 := f12.keep K4
    have f14 := f13.keep K8
    have f15 := f14.keep K11
    have f16 := E_s17.keep K1
    have f17 := f16.keep K4
    have f18 := f17.keep K8
    have f19 := f18.keep K11
    have f20 := E_v19.keep K1
    have f21 := f20.keep K4
    have f22 := f21.keep K8
    have f23 := f22.keep K11
    have f24 := f2.keep K4
    have f25 := f24.keep K8
    have f26 := f25.keep K11
    have f27 := f6.keep K8
    have f28 := f27.keep K11
    have f29 := fq8_0.keep K11
    have f30 := fq8_1.keep K11 nin0
    have f31 := fq8_2.keep K11 nin0
    have f32 := fq8_3.keep K11 nin0
    have f33 := fq8_4.keep K11 nin0
    have f34 := f10.keep K11 all0
    exact seg_C3 h0 T11.heap n0 i0 i1 i2 i3 i4 i5 ka ra kd tv rq wh hd r1 r2 s16 s17 s18 v19 v20 v21 al w_TEXT w_OPTION w_METHOD w_TARGET w_BODY w_TIME w_NONCE dA clD kO mir em el oe cz b11 t1 ((((0 : Int32) + (1 : Int32)) + (1 : Int32)) + (1 : Int32)) (X11.mono (by decide) (by decide)) hx hZs hZ11 hS11 (Nat.le_refl _) hw hby hml howns hown11 hnm hret hlk rfl N11 f34 HBs f15 f19 f23 f26 f28 X_r1 X_r2 hrq hwn hhd hT1 hT4 hk1 fq11_0 fq11_1 fq11_2 (by rw [hc9]; exact fq11_3) fq11_4 fq11_5 fq11_6 fq11_7 fq11_8 f29 f30 f31 f32 f33
  · refine own_spV (q := 382) (S' := []) (fun _ k_ => XS.ifNo X8.here hx rfl (hb hby at_379) rfl ((if0 _ _).trans (feq hc9).1) k_) ?_
    refine own_spV (q := 384) (S' := [(.ref s16)]) (fun _ k_ => XS.aload X8.here hx rfl (hb hby at_382) rfl rfl  k_) ?_
    refine own_spV (q := 386) (S' := [(.ref kd), (.ref s16)]) (fun _ k_ => XS.aload X8.here hx rfl (hb hby at_384) rfl rfl  k_) ?_
    refine own_spV (q := 388) (S' := [(.ref s17), (.ref kd), (.ref s16)]) (fun _ k_ => XS.aload X8.here hx rfl (hb hby at_386) rfl rfl  k_) ?_
    have f35 := f7.keep K8 (allS f_al (allS (Nat.le_trans (own_z O0) xq1_fresh_t) all0))
    obtain ⟨_, T36, L36, X36, hS36, hW36, hQ36, st36⟩ := own_callSV (Z := Z) X8 hx (y := own_m52) hown (mvT hZ (wd hw 249 rfl)) (mvT hZ (wd hw 250 rfl)) (mvT hZ (wd hw 97 rfl)) (mvT hZ (wd hw 251 rfl)) (by decide) (own_backV (W := 0) (rm_mk_required l Z a0 hw [] s16 kd s17 w_OPTION w_TEXT el oe T8.heap n0 f35 S_el IL_el S_oe X_oe F_oe S_TEXT S_OPTION) hZ (wd hw 251 rfl) (wd hw 97 rfl) (by decide) (by decide) (fun _ _ => trivial)) (g := (mkF m 388 #[iv i0, iv i1, iv i2, iv i3, iv i4, iv i5, rv ka, rv ra, rv kd, iv tv, iv rq, iv wh, iv hd, iv (3 : Int32), rv r1, rv r2, rv s16, rv s17, rv s18, rv v19, rv v20, rv v21, rv al, .unset, .unset, .unset, .unset] [(.ref s17), (.ref kd), (.ref s16)])) rfl (by rw [hml]; rfl) (argsL := [(.ref s16), (.ref kd), (.ref s17)]) (rest := []) (lenOf pd__Ljava_lang_String_Lcom_example_countersign_countersign_Parameter_Kind_Ljava_lang_String__Lcom_example_countersign_countersign_Parameter_ rfl) rfl (by show 2 * 0 + _ ≤ _; exact Nat.le_of_eq rfl) (hb hby at_388) rfl rfl (by decide) (by decide) (c' := 30) (s' := 365) rfl rfl hS0 (Nat.le_trans (Nat.le_trans (Nat.le_trans hk0 K1.1) K4.1) K8.1)
    obtain ⟨b36, rfl, Nq36, K36, fq36_0, fq36_1, fq36_2, fq36_3, fq36_4, fq36_5, fq36_6, fq36_7, fq36_8, xq36_fresh_b, wmq36⟩ := hQ36
    have N36 := Fr.app N8 Nq36
    have hZ36 : Z.Warmed39 (s.setVm T36.vm).vm := own_hZ hZs hS36
    have hown36 : (s.setVm T36.vm).vm.findClass ks3 = some m.cls := own_hown howns hS36
    refine own_spV (q := 391) (S' := [(.ref b36)]) st36 ?_
    clear st36
    refine own_spV (q := 403) (S' := [(.ref b36)]) (fun _ k_ => XS.goto X36.here hx rfl (pc0 := 391) (pc' := 403) rfl (hb hby at_391) (by decide) (by decide) k_) ?_
    refine own_stV (T' := T36) (g' := (mkF m 405 #[iv i0, iv i1, iv i2, iv i3, iv i4, iv i5, rv ka, rv ra, rv kd, iv tv, iv rq, iv wh, iv hd, iv (3 : Int32), rv r1, rv r2, rv s16, rv s17, rv s18, rv v19, rv v20, rv v21, rv al, rv b36, .unset, .unset, .unset] [])) (fun _ k_ => XS.astore X36.here hx rfl (hb hby at_403) rfl rfl (l' := #[iv i0, iv i1, iv i2, iv i3, iv i4, iv i5, rv ka, rv ra, rv kd, iv tv, iv rq, iv wh, iv hd, iv (3 : Int32), rv r1, rv r2, rv s16, rv s17, rv s18, rv v19, rv v20, rv v21, rv al, rv b36, .unset, .unset, .unset]) rfl k_) ?_
    have f37 := E_s16.keep K1
    have f38 := f37.keep K4
    have f39 := f38.keep K8
    have f40 := f39.keep K36
    have f41 := E_s17.keep K1
    have f42 := f41.keep K4
    have f43 := f42.keep K8
    have f44 := f43.keep K36
    have f45 := E_v19.keep K1
    have f46 := f45.keep K4
    have f47 := f46.keep K8
    have f48 := f47.keep K36
    have f49 := f2.keep K4
    have f50 := f49.keep K8
    have f51 := f50.keep K36
    have f52 := f6.keep K8
    have f53 := f52.keep K36
    have f54 := fq8_0.keep K36
    have f55 := fq8_1.keep K36 nin0
    have f56 := fq8_2.keep K36 nin0
    have f57 := fq8_3.keep K36 nin0
    have f58 := fq8_4.keep K36 nin0
    have f59 := f35.keep K36 all0
    exact seg_C3 h0 T36.heap n0 i0 i1 i2 i3 i4 i5 ka ra kd tv rq wh hd r1 r2 s16 s17 s18 v19 v20 v21 al w_TEXT w_OPTION w_METHOD w_TARGET w_BODY w_TIME w_NONCE dA clD kO mir em el oe cz b36 t1 ((((0 : Int32) + (1 : Int32)) + (1 : Int32)) + (1 : Int32)) (X36.mono (by decide) (by decide)) hx hZs hZ36 hS36 (Nat.le_refl _) hw hby hml howns hown36 hnm hret hlk rfl N36 f59 HBs f40 f44 f48 f51 f53 X_r1 X_r2 hrq hwn hhd hT1 hT4 hk1 fq36_0 fq36_1 fq36_2 (by rw [hrq.resolve_left hc9]; exact fq36_3) fq36_4 fq36_5 fq36_6 fq36_7 fq36_8 f54 f55 f56 f57 f58
theorem own_rol {Z : State} {w_OPTION w_METHOD w_TARGET w_BODY w_TIME w_NONCE : Addr} (x : Int32) (X_OPTION : Exa Z Z.heap w_OPTION ks1) (X_METHOD : Exa Z Z.heap w_METHOD ks1) (X_TARGET : Exa Z Z.heap w_TARGET ks1) (X_BODY : Exa Z Z.heap w_BODY ks1) (X_TIME : Exa Z Z.heap w_TIME ks1) (X_NONCE : Exa Z Z.heap w_NONCE ks1) : ∃ r, List.getD [(Value.ref w_OPTION), (Value.ref w_METHOD), (Value.ref w_TARGET), (Value.ref w_BODY), (Value.ref w_TIME), (Value.ref w_NONCE)] ((x &&& (2147483647 : Int32)) % (6 : Int32)).toNatClampNeg .null = .ref r ∧ Exa Z Z.heap r ks1 := by
  have h := own_rem x 6 6 (by decide) rfl
  have e : ((x &&& 2147483647) % 6).toNatClampNeg < 6 := by simp only [Int32.toNatClampNeg]; omega
  generalize ((x &&& 2147483647) % 6).toNatClampNeg = k at e
  match k, e with
  | 0, _ => exact ⟨_, rfl, X_OPTION⟩
  | 1, _ => exact ⟨_, rfl, X_METHOD⟩
  | 2, _ => exact ⟨_, rfl, X_TARGET⟩
  | 3, _ => exact ⟨_, rfl, X_BODY⟩
  | 4, _ => exact ⟨_, rfl, X_TIME⟩
  | 5, _ => exact ⟨_, rfl, X_NONCE⟩
theorem own_rolB (x : Int32) : ¬ ((x &&& (2147483647 : Int32)) % (6 : Int32)) < 0 ∧ ((x &&& (2147483647 : Int32)) % (6 : Int32)) < 6 := by
  have h := own_rem x 6 6 (by decide) rfl
  have z0 : (0 : Int32).toInt = 0 := rfl
  have z6 : (6 : Int32).toInt = 6 := rfl
  constructor <;> rw [Int32.lt_iff_toInt_lt] <;> omega
theorem pd___C_V : parseMethodDescriptor "([C)V" = some ⟨[(.array .char)], none⟩ := by decide +kernel
theorem pd__C_Ljava_lang_String_ : parseMethodDescriptor "(C)Ljava/lang/String;" = some ⟨[.char], some (.object "java/lang/String")⟩ := by decide +kernel
theorem seg_A (h0 : Heap) (hB : Heap) (n0 : Nat) (i0 : Int32) (i1 : Int32) (i2 : Int32) (i3 : Int32) (i4 : Int32) (i5 : Int32) (ka : Addr) (ra : Addr) (kra : ClassId) (kd : Addr) (tv : Int32) (rq : Int32) (wh : Int32) (hd : Int32) (nc : Int32) (w_TEXT : Addr) (w_OPTION : Addr) (w_METHOD : Addr) (w_TARGET : Addr) (w_BODY : Addr) (w_TIME : Addr) (w_NONCE : Addr) (dA : Addr) (clD : Cell) (kO : ClassId) (mir : Addr) (em : Addr) (el : Addr) (oe : Addr) (cz : Int32)
    (X0 : Stand p l e room_1 (s.setVm vm0) m args below meth c T0 locs 2 9) (hx : p.tables.exec = Jvm.exec) (hZs : Z.Warmed39 s.vm) (hZ : Z.Warmed39 (s.setVm vm0).vm) (hS0 : s.Since vm0 k0) (hk0 : k0 ≤ hB.size) (hw : own_HW a0 Z) (hby : c.code = code) (hml : c.maxLocals = 27) (howns : s.vm.findClass ks3 = some m.cls) (hown : (s.setVm vm0).vm.findClass ks3 = some m.cls) (hnm : meth.name = "law") (hret : meth.sig.returnType = some .boolean) (hlk : meth.locks = false) (e0 : T0.heap = hB) (N0 : Fr n0 locs) (O0 : Old Z n0 hB) (V_ra : Arv Z hB ra kra (.object ks1) (6 : Int32) [(.ref w_OPTION), (.ref w_METHOD), (.ref w_TARGET), (.ref w_BODY), (.ref w_TIME), (.ref w_NONCE)] .null) (HBs : own_Bs Z w_TEXT w_OPTION w_METHOD w_TARGET w_BODY w_TIME w_NONCE dA clD kO mir em el oe cz) (hrq : own_B rq) (hwn : own_B wh) (hhd : own_B hd) (hT1 : ¬ wh = (0 : Int32) → kd = w_TEXT) (hT4 : ¬ hd = (0 : Int32) → kd = w_TEXT) (hT3 : ¬ nc = (0 : Int32) → kd = w_TEXT) (hN : nc = 0 ∨ nc = 1 ∨ nc = 2 ∨ nc = 3) :
    own_V p e below s room_1.cells room_1.slots (fun v h L _ => own_L n0 v h L) T0 (mkF m 159 #[iv i0, iv i1, iv i2, iv i3, iv i4, iv i5, rv ka, rv ra, rv kd, iv tv, iv rq, iv wh, iv hd, iv nc, .unset, .unset, .unset, .unset, .unset, .unset, .unset, .unset, .unset, .unset, .unset, .unset, .unset] []) := by
  obtain ⟨S_TEXT, S_OPTION, X_OPTION, S_METHOD, X_METHOD, S_TARGET, X_TARGET, S_BODY, X_BODY, S_TIME, X_TIME, S_NONCE, X_NONCE, SDe, AD, LD, OV, FC, MIR, SEm, X_em, S_el, IL_el, S_oe, X_oe, F_oe, SC, hcz⟩ := id HBs
  refine own_stV (T' := T0) (g' := (mkF m 161 #[iv i0, iv i1, iv i2, iv i3, iv i4, iv i5, rv ka, rv ra, rv kd, iv tv, iv rq, iv wh, iv hd, iv nc, .unset, .unset, .unset, .unset, .unset, .unset, .unset, .unset, .unset, .unset, .unset, .unset, .unset] [(.ref ra)])) (fun _ k_ => XS.aload X0.here hx rfl (hb hby at_159) rfl rfl  k_) ?_
  refine own_spV (q := 163) (S' := [(.int i4), (.ref ra)]) (fun _ k_ => XS.iload X0.here hx rfl (hb hby at_161) rfl  k_) ?_
  refine own_spV (q := 165) (S' := [(.int (2147483647 : Int32)), (.int i4), (.ref ra)]) (X0.ldcInt hx hown (mvT hZ (wd hw 26 rfl)) (g := (mkF m 163 #[iv i0, iv i1, iv i2, iv i3, iv i4, iv i5, rv ka, rv ra, rv kd, iv tv, iv rq, iv wh, iv hd, iv nc, .unset, .unset, .unset, .unset, .unset, .unset, .unset, .unset, .unset, .unset, .unset, .unset, .unset] [(.int i4), (.ref ra)])) rfl (hb hby at_163)) ?_
  refine own_spV (q := 166) (S' := [(.int (i4 &&& (2147483647 : Int32))), (.ref ra)]) (fun _ k_ => XS.iand X0.here hx rfl (hb hby at_165) rfl k_) ?_
  refine own_spV (q := 168) (S' := [(.int (6 : Int32)), (.int (i4 &&& (2147483647 : Int32))), (.ref ra)]) (fun _ k_ => XS.bipush X0.here hx rfl (hb hby at_166) k_) ?_
  refine own_spV (q := 169) (S' := [(.int ((i4 &&& (2147483647 : Int32)) % (6 : Int32))), (.ref ra)]) (fun _ k_ => iremM X0 hx rfl (hb hby at_168) rfl (by decide) k_) ?_
  obtain ⟨r1, hr1, X_r1⟩ := own_rol i4 X_OPTION X_METHOD X_TARGET X_BODY X_TIME X_NONCE
  obtain ⟨cl1, Ar1, q1, S1, N1, H1, G1⟩ := id V_ra
  have hin1 : ¬ (((i4 &&& (2147483647 : Int32)) % (6 : Int32)) < 0 ∨ cl1.slots.size ≤ (((i4 &&& (2147483647 : Int32)) % (6 : Int32))).toNatClampNeg) := inb_of S1 (own_rolB i4)
  refine own_spV (q := 170) (S' := [(.ref r1)]) (X0.aaload hx (j := ((i4 &&& (2147483647 : Int32)) % (6 : Int32))) (v := (.ref r1)) (by rw [e0]; exact Ar1.1) (State.isArrayOf_alike hZ.alike Ar1.2.1) rfl Ar1.2.2 hin1 (H1.at hin1 hr1) (g := (mkF m 169 #[iv i0, iv i1, iv i2, iv i3, iv i4, iv i5, rv ka, rv ra, rv kd, iv tv, iv rq, iv wh, iv hd, iv nc, .unset, .unset, .unset, .unset, .unset, .unset, .unset, .unset, .unset, .unset, .unset, .unset, .unset] [(.int ((i4 &&& (2147483647 : Int32)) % (6 : Int32))), (.ref ra)])) rfl rfl (hb hby at_169)) ?_
  clear hin1 G1 H1 N1 S1 q1 Ar1 cl1
  refine own_stV (T' := T0) (g' := (mkF m 172 #[iv i0, iv i1, iv i2, iv i3, iv i4, iv i5, rv ka, rv ra, rv kd, iv tv, iv rq, iv wh, iv hd, iv nc, rv r1, .unset, .unset, .unset, .unset, .unset, .unset, .unset, .unset, .unset, .unset, .unset, .unset] [])) (fun _ k_ => XS.astore X0.here hx rfl (hb hby at_170) rfl rfl (l' := #[iv i0, iv i1, iv i2, iv i3, iv i4, iv i5, rv ka, rv ra, rv kd, iv tv, iv rq, iv wh, iv hd, iv nc, rv r1, .unset, .unset, .unset, .unset, .unset, .unset, .unset, .unset, .unset, .unset, .unset, .unset]) rfl k_) ?_
  refine own_spV (q := 174) (S' := [(.ref ra)]) (fun _ k_ => XS.aload X0.here hx rfl (hb hby at_172) rfl rfl  k_) ?_
  refine own_spV (q := 176) (S' := [(.int i5), (.ref ra)]) (fun _ k_ => XS.iload X0.here hx rfl (hb hby at_174) rfl  k_) ?_
  refine own_spV (q := 178) (S' := [(.int (2147483647 : Int32)), (.int i5), (.ref ra)]) (X0.ldcInt hx hown (mvT hZ (wd hw 26 rfl)) (g := (mkF m 176 #[iv i0, iv i1, iv i2, iv i3, iv i4, iv i5, rv ka, rv ra, rv kd, iv tv, iv rq, iv wh, iv hd, iv nc, rv r1, .unset, .unset, .unset, .unset, .unset, .unset, .unset, .unset, .unset, .unset, .unset, .unset] [(.int i5), (.ref ra)])) rfl (hb hby at_176)) ?_
  refine own_spV (q := 179) (S' := [(.int (i5 &&& (2147483647 : Int32))), (.ref ra)]) (fun _ k_ => XS.iand X0.here hx rfl (hb hby at_178) rfl k_) ?_
  refine own_spV (q := 181) (S' := [(.int (6 : Int32)), (.int (i5 &&& (2147483647 : Int32))), (.ref ra)]) (fun _ k_ => XS.bipush X0.here hx rfl (hb hby at_179) k_) ?_
  refine own_spV (q := 182) (S' := [(.int ((i5 &&& (2147483647 : Int32)) % (6 : Int32))), (.ref ra)]) (fun _ k_ => iremM X0 hx rfl (hb hby at_181) rfl (by decide) k_) ?_
  obtain ⟨r2, hr2, X_r2⟩ := own_rol i5 X_OPTION X_METHOD X_TARGET X_BODY X_TIME X_NONCE
  obtain ⟨cl2, Ar2, q2, S2, N2, H2, G2⟩ := id V_ra
  have hin2 : ¬ (((i5 &&& (2147483647 : Int32)) % (6 : Int32)) < 0 ∨ cl2.slots.size ≤ (((i5 &&& (2147483647 : Int32)) % (6 : Int32))).toNatClampNeg) := inb_of S2 (own_rolB i5)
  refine own_spV (q := 183) (S' := [(.ref r2)]) (X0.aaload hx (j := ((i5 &&& (2147483647 : Int32)) % (6 : Int32))) (v := (.ref r2)) (by rw [e0]; exact Ar2.1) (State.isArrayOf_alike hZ.alike Ar2.2.1) rfl Ar2.2.2 hin2 (H2.at hin2 hr2) (g := (mkF m 182 #[iv i0, iv i1, iv i2, iv i3, iv i4, iv i5, rv ka, rv ra, rv kd, iv tv, iv rq, iv wh, iv hd, iv nc, rv r1, .unset, .unset, .unset, .unset, .unset, .unset, .unset, .unset, .unset, .unset, .unset, .unset] [(.int ((i5 &&& (2147483647 : Int32)) % (6 : Int32))), (.ref ra)])) rfl rfl (hb hby at_182)) ?_
  clear hin2 G2 H2 N2 S2 q2 Ar2 cl2
  refine own_stV (T' := T0) (g' := (mkF m 185 #[iv i0, iv i1, iv i2, iv i3, iv i4, iv i5, rv ka, rv ra, rv kd, iv tv, iv rq, iv wh, iv hd, iv nc, rv r1, rv r2, .unset, .unset, .unset, .unset, .unset, .unset, .unset, .unset, .unset, .unset, .unset] [])) (fun _ k_ => XS.astore X0.here hx rfl (hb hby at_183) rfl rfl (l' := #[iv i0, iv i1, iv i2, iv i3, iv i4, iv i5, rv ka, rv ra, rv kd, iv tv, iv rq, iv wh, iv hd, iv nc, rv r1, rv r2, .unset, .unset, .unset, .unset, .unset, .unset, .unset, .unset, .unset, .unset, .unset]) rfl k_) ?_
  obtain ⟨T3, h3, X3, e3, E3, A3, D3, -, st3⟩ := newO X0 hx hZ hown (wd hw 27 rfl) (wd hw 28 rfl) (wd hw 29 rfl) e0 (g := (mkF m 185 #[iv i0, iv i1, iv i2, iv i3, iv i4, iv i5, rv ka, rv ra, rv kd, iv tv, iv rq, iv wh, iv hd, iv nc, rv r1, rv r2, .unset, .unset, .unset, .unset, .unset, .unset, .unset, .unset, .unset, .unset, .unset] [])) rfl (hb hby at_185) (by decide) (by decide)
  obtain ⟨b3, g3⟩ : ∃ z, z = hB.size := ⟨_, rfl⟩
  rw [← g3] at A3 D3 st3
  have fr3 : n0 ≤ b3 := Nat.le_trans (own_z O0) (Nat.le_of_eq g3.symm)
  have F3_coder : Fld Z h3 b3 ks10 "coder" "B" (.int (0 : Int32)) := D3 (Or.inr (wd hw 54 rfl)) (ty := .byte) (by decide)
  have F3_value : Fld Z h3 b3 ks10 "value" "[B" .null := D3 (Or.inr (wd hw 56 rfl)) (ty := (.array .byte)) (by decide)
  refine own_spV (q := 188) (S' := [(.ref b3)]) st3 ?_
  clear st3
  refine own_spV (q := 189) (S' := [(.ref b3), (.ref b3)]) (fun _ k_ => XS.dup X3.here hx rfl (hb hby at_188) rfl rfl k_) ?_
  refine own_spV (q := 190) (S' := [(.int (2 : Int32)), (.ref b3), (.ref b3)]) (fun _ k_ => XS.iconst X3.here hx rfl (hb hby at_189) k_) ?_
  have f4 := O0.ext E3
  obtain ⟨T5, h5, k5, X5, e5, E5, A5, st5⟩ := newP X3 hx hZ (wd hw 30 rfl) e3 (g := (mkF m 190 #[iv i0, iv i1, iv i2, iv i3, iv i4, iv i5, rv ka, rv ra, rv kd, iv tv, iv rq, iv wh, iv hd, iv nc, rv r1, rv r2, .unset, .unset, .unset, .unset, .unset, .unset, .unset, .unset, .unset, .unset, .unset] [(.int (2 : Int32)), (.ref b3), (.ref b3)])) rfl (hb hby at_190) rfl (by decide) (cap := 2) (by decide) (by decide) (by decide) (by decide)
  obtain ⟨b5, g5⟩ : ∃ z, z = h3.size := ⟨_, rfl⟩
  rw [← g5] at A5 st5
  have fr5 : n0 ≤ b5 := Nat.le_trans (own_z f4) (Nat.le_of_eq g5.symm)
  have V5 : Arv Z h5 b5 k5 .char (2 : Int32) [(.int (0 : Int32)), (.int (0 : Int32))] (.int (0 : Int32)) := (Arv.new A5 (by decide)).pad (pad_rep [] (.int (0 : Int32)) 2)
  refine own_spV (q := 192) (S' := [(.ref b5), (.ref b3), (.ref b3)]) st5 ?_
  clear st5
  refine own_spV (q := 193) (S' := [(.ref b5), (.ref b5), (.ref b3), (.ref b3)]) (fun _ k_ => XS.dup X5.here hx rfl (hb hby at_192) rfl rfl k_) ?_
  refine own_spV (q := 194) (S' := [(.int (0 : Int32)), (.ref b5), (.ref b5), (.ref b3), (.ref b3)]) (fun _ k_ => XS.iconst X5.here hx rfl (hb hby at_193) k_) ?_
  refine own_spV (q := 195) (S' := [(.int i0), (.int (0 : Int32)), (.ref b5), (.ref b5), (.ref b3), (.ref b3)]) (fun _ k_ => XS.iloadN X5.here hx rfl (hb hby at_194) rfl  k_) ?_
  refine own_spV (q := 198) (S' := [(.int (255 : Int32)), (.int i0), (.int (0 : Int32)), (.ref b5), (.ref b5), (.ref b3), (.ref b3)]) (fun _ k_ => XS.sipush X5.here hx rfl (hb hby at_195) k_) ?_
  refine own_spV (q := 199) (S' := [(.int (i0 &&& (255 : Int32))), (.int (0 : Int32)), (.ref b5), (.ref b5), (.ref b3), (.ref b3)]) (fun _ k_ => XS.iand X5.here hx rfl (hb hby at_198) rfl k_) ?_
  refine own_spV (q := 200) (S' := [(.int ((i0 &&& (255 : Int32)).toUInt32.toUInt16.toUInt32.toInt32)), (.int (0 : Int32)), (.ref b5), (.ref b5), (.ref b3), (.ref b3)]) (fun _ k_ => XS.i2c X5.here hx rfl (hb hby at_199) rfl k_) ?_
  obtain ⟨cl6, Ar6, q6, S6, N6, H6, G6⟩ := id V5
  have hin6 : ¬ ((0 : Int32) < 0 ∨ cl6.slots.size ≤ ((0 : Int32)).toNatClampNeg) := inb_of S6 ⟨by decide, by decide⟩
  obtain ⟨T7, h7, X7, e7, W7, st7⟩ := stC X5 hx hZ e5 Ar6 (j := (0 : Int32)) hin6 (g := (mkF m 200 #[iv i0, iv i1, iv i2, iv i3, iv i4, iv i5, rv ka, rv ra, rv kd, iv tv, iv rq, iv wh, iv hd, iv nc, rv r1, rv r2, .unset, .unset, .unset, .unset, .unset, .unset, .unset, .unset, .unset, .unset, .unset] [(.int ((i0 &&& (255 : Int32)).toUInt32.toUInt16.toUInt32.toInt32)), (.int (0 : Int32)), (.ref b5), (.ref b5), (.ref b3), (.ref b3)])) rfl rfl (hb hby at_200)
  have V7 : Arv Z h7 b5 k5 .char (2 : Int32) [(.int (nar .char ((i0 &&& (255 : Int32)).toUInt32.toUInt16.toUInt32.toInt32))), (.int (0 : Int32))] (.int (0 : Int32)) := Arv.set Ar6 q6 S6 N6 H6 G6 (fits_nar_char _) W7 0 rfl (Nat.le_of_ble_eq_true rfl)
  have Vn7 : Arv Z h7 b5 k5 .char (2 : Int32) [(.int (i0 &&& (255 : Int32))), (.int (0 : Int32))] (.int (0 : Int32)) := by simpa only [own_nc] using V7
  have Nx7 := Fr.snoc X7 N0 fr5
  refine own_spV (q := 201) (S' := [(.ref b5), (.ref b3), (.ref b3)]) st7 ?_
  clear hin6 G6 H6 N6 S6 q6 Ar6 cl6 st7
  refine own_spV (q := 202) (S' := [(.ref b5), (.ref b5), (.ref b3), (.ref b3)]) (fun _ k_ => XS.dup X7.here hx rfl (hb hby at_201) rfl rfl k_) ?_
  refine own_spV (q := 203) (S' := [(.int (1 : Int32)), (.ref b5), (.ref b5), (.ref b3), (.ref b3)]) (fun _ k_ => XS.iconst X7.here hx rfl (hb hby at_202) k_) ?_
  refine own_spV (q := 204) (S' := [(.int i0), (.int (1 : Int32)), (.ref b5), (.ref b5), (.ref b3), (.ref b3)]) (fun _ k_ => XS.iloadN X7.here hx rfl (hb hby at_203) rfl  k_) ?_
  refine own_spV (q := 206) (S' := [(.int (8 : Int32)), (.int i0), (.int (1 : Int32)), (.ref b5), (.ref b5), (.ref b3), (.ref b3)]) (fun _ k_ => XS.bipush X7.here hx rfl (hb hby at_204) k_) ?_
  refine own_spV (q := 207) (S' := [(.int ((i0.toUInt32 >>> ((8 : Int32) &&& 31).toUInt32).toInt32)), (.int (1 : Int32)), (.ref b5), (.ref b5), (.ref b3), (.ref b3)]) (fun _ k_ => XS.iushr X7.here hx rfl (hb hby at_206) rfl k_) ?_
  refine own_spV (q := 210) (S' := [(.int (255 : Int32)), (.int ((i0.toUInt32 >>> ((8 : Int32) &&& 31).toUInt32).toInt32)), (.int (1 : Int32)), (.ref b5), (.ref b5), (.ref b3), (.ref b3)]) (fun _ k_ => XS.sipush X7.here hx rfl (hb hby at_207) k_) ?_
  refine own_spV (q := 211) (S' := [(.int (((i0.toUInt32 >>> ((8 : Int32) &&& 31).toUInt32).toInt32) &&& (255 : Int32))), (.int (1 : Int32)), (.ref b5), (.ref b5), (.ref b3), (.ref b3)]) (fun _ k_ => XS.iand X7.here hx rfl (hb hby at_210) rfl k_) ?_
  refine own_spV (q := 212) (S' := [(.int ((((i0.toUInt32 >>> ((8 : Int32) &&& 31).toUInt32).toInt32) &&& (255 : Int32)).toUInt32.toUInt16.toUInt32.toInt32)), (.int (1 : Int32)), (.ref b5), (.ref b5), (.ref b3), (.ref b3)]) (fun _ k_ => XS.i2c X7.here hx rfl (hb hby at_211) rfl k_) ?_
  obtain ⟨cl8, Ar8, q8, S8, N8, H8, G8⟩ := id Vn7
  have hin8 : ¬ ((1 : Int32) < 0 ∨ cl8.slots.size ≤ ((1 : Int32)).toNatClampNeg) := inb_of S8 ⟨by decide, by decide⟩
  obtain ⟨T9, h9, X9, e9, W9, st9⟩ := stC X7 hx hZ e7 Ar8 (j := (1 : Int32)) hin8 (g := (mkF m 212 #[iv i0, iv i1, iv i2, iv i3, iv i4, iv i5, rv ka, rv ra, rv kd, iv tv, iv rq, iv wh, iv hd, iv nc, rv r1, rv r2, .unset, .unset, .unset, .unset, .unset, .unset, .unset, .unset, .unset, .unset, .unset] [(.int ((((i0.toUInt32 >>> ((8 : Int32) &&& 31).toUInt32).toInt32) &&& (255 : Int32)).toUInt32.toUInt16.toUInt32.toInt32)), (.int (1 : Int32)), (.ref b5), (.ref b5), (.ref b3), (.ref b3)])) rfl rfl (hb hby at_212)
  have V9 : Arv Z h9 b5 k5 .char (2 : Int32) [(.int (i0 &&& (255 : Int32))), (.int (nar .char ((((i0.toUInt32 >>> ((8 : Int32) &&& 31).toUInt32).toInt32) &&& (255 : Int32)).toUInt32.toUInt16.toUInt32.toInt32)))] (.int (0 : Int32)) := Arv.set Ar8 q8 S8 N8 H8 G8 (fits_nar_char _) W9 1 rfl (Nat.le_of_ble_eq_true rfl)
  have Vn9 : Arv Z h9 b5 k5 .char (2 : Int32) [(.int (i0 &&& (255 : Int32))), (.int (((i0.toUInt32 >>> ((8 : Int32) &&& 31).toUInt32).toInt32) &&& (255 : Int32)))] (.int (0 : Int32)) := by simpa only [own_nc] using V9
  have Nx9 := Fr.snoc X9 Nx7 fr5
  refine own_spV (q := 213) (S' := [(.ref b5), (.ref b3), (.ref b3)]) st9 ?_
  clear hin8 G8 H8 N8 S8 q8 Ar8 cl8 st9
  have f10 := A3.ext E5
  have f11 := f10.wr W7
  have f12 := f11.wr W9
  have f13 := F3_value.ext E5
  have ne14 : b3 ≠ b5 := Nat.ne_of_lt (Nat.lt_of_lt_of_le A3.lt (Nat.le_of_eq g5.symm))
  have f15 := f13.other W7 (Or.inl ne14)
  have f16 := f15.other W9 (Or.inl ne14)
  have f17 := F3_coder.ext E5
  have f18 := f17.other W7 (Or.inl ne14)
  have f19 := f18.other W9 (Or.inl ne14)
  have f20 := f4.ext E5
  have f21 := f20.wr W7 fr5
  have f22 := f21.wr W9 fr5
  refine own_kcI own_ckV X9 hx hZ hown hml (y := own_m4) rfl (wd hw 31 rfl) (wd hw 32 rfl) (wd hw 29 rfl) (wd hw 33 rfl) (by decide) (a := b3) (rm_ini1_2 l Z a0 hw [] b3 b5 k5 cz (i0 &&& (255 : Int32)) (((i0.toUInt32 >>> ((8 : Int32) &&& 31).toUInt32).toInt32) &&& (255 : Int32)) h9 n0 f22 f12 f16 f19 fr3 Vn9 SC hcz (own_r255 _).2 (own_r255 _).2) (by decide) (by decide) (W := 1) (Nat.le_of_eq rfl) (argsL := [(.ref b5)]) (rest := [(.ref b3)]) (lenOf pd___C_V rfl) rfl rfl (hb hby at_213) rfl e9 (by decide) (by decide) (c' := 5) (s' := 17) rfl rfl (q := 216) rfl fun _ T23 L23 X23 hQ23 => ?_
  obtain ⟨t23, kb23, rfl, Nq23, K23, fq23_0, fq23_1, fq23_2, fq23_3, xq23_fresh_t⟩ := hQ23
  have N23 := Fr.app Nx9 Nq23
  show own_V p e below s _ _ _ T23 (mkF m 216 _ [(.ref b3)])
  refine own_stV (T' := T23) (g' := (mkF m 218 #[iv i0, iv i1, iv i2, iv i3, iv i4, iv i5, rv ka, rv ra, rv kd, iv tv, iv rq, iv wh, iv hd, iv nc, rv r1, rv r2, rv b3, .unset, .unset, .unset, .unset, .unset, .unset, .unset, .unset, .unset, .unset] [])) (fun _ k_ => XS.astore X23.here hx rfl (hb hby at_216) rfl rfl (l' := #[iv i0, iv i1, iv i2, iv i3, iv i4, iv i5, rv ka, rv ra, rv kd, iv tv, iv rq, iv wh, iv hd, iv nc, rv r1, rv r2, rv b3, .unset, .unset, .unset, .unset, .unset, .unset, .unset, .unset, .unset, .unset]) rfl k_) ?_
  have f24 := f22.keep K23 (allS fr3 all0)
  obtain ⟨T25, h25, X25, e25, E25, A25, D25, -, st25⟩ := newO X23 hx hZ hown (wd hw 27 rfl) (wd hw 28 rfl) (wd hw 29 rfl) rfl (g := (mkF m 218 #[iv i0, iv i1, iv i2, iv i3, iv i4, iv i5, rv ka, rv ra, rv kd, iv tv, iv rq, iv wh, iv hd, iv nc, rv r1, rv r2, rv b3, .unset, .unset, .unset, .unset, .unset, .unset, .unset, .unset, .unset, .unset] [])) rfl (hb hby at_218) (by decide) (by decide)
  obtain ⟨b25, g25⟩ : ∃ z, z = T23.heap.size := ⟨_, rfl⟩
  rw [← g25] at A25 D25 st25
  have fr25 : n0 ≤ b25 := Nat.le_trans (own_z f24) (Nat.le_of_eq g25.symm)
  have F25_coder : Fld Z h25 b25 ks10 "coder" "B" (.int (0 : Int32)) := D25 (Or.inr (wd hw 54 rfl)) (ty := .byte) (by decide)
  have F25_value : Fld Z h25 b25 ks10 "value" "[B" .null := D25 (Or.inr (wd hw 56 rfl)) (ty := (.array .byte)) (by decide)
  refine own_spV (q := 221) (S' := [(.ref b25)]) st25 ?_
  clear st25
  refine own_spV (q := 222) (S' := [(.ref b25), (.ref b25)]) (fun _ k_ => XS.dup X25.here hx rfl (hb hby at_221) rfl rfl k_) ?_
  refine own_spV (q := 223) (S' := [(.int (2 : Int32)), (.ref b25), (.ref b25)]) (fun _ k_ => XS.iconst X25.here hx rfl (hb hby at_222) k_) ?_
  have f26 := f24.ext E25
  obtain ⟨T27, h27, k27, X27, e27, E27, A27, st27⟩ := newP X25 hx hZ (wd hw 30 rfl) e25 (g := (mkF m 223 #[iv i0, iv i1, iv i2, iv i3, iv i4, iv i5, rv ka, rv ra, rv kd, iv tv, iv rq, iv wh, iv hd, iv nc, rv r1, rv r2, rv b3, .unset, .unset, .unset, .unset, .unset, .unset, .unset, .unset, .unset, .unset] [(.int (2 : Int32)), (.ref b25), (.ref b25)])) rfl (hb hby at_223) rfl (by decide) (cap := 2) (by decide) (by decide) (by decide) (by decide)
  obtain ⟨b27, g27⟩ : ∃ z, z = h25.size := ⟨_, rfl⟩
  rw [← g27] at A27 st27
  have fr27 : n0 ≤ b27 := Nat.le_trans (own_z f26) (Nat.le_of_eq g27.symm)
  have V27 : Arv Z h27 b27 k27 .char (2 : Int32) [(.int (0 : Int32)), (.int (0 : Int32))] (.int (0 : Int32)) := (Arv.new A27 (by decide)).pad (pad_rep [] (.int (0 : Int32)) 2)
  refine own_spV (q := 225) (S' := [(.ref b27), (.ref b25), (.ref b25)]) st27 ?_
  clear st27
  refine own_spV (q := 226) (S' := [(.ref b27), (.ref b27), (.ref b25), (.ref b25)]) (fun _ k_ => XS.dup X27.here hx rfl (hb hby at_225) rfl rfl k_) ?_
  refine own_spV (q := 227) (S' := [(.int (0 : Int32)), (.ref b27), (.ref b27), (.ref b25), (.ref b25)]) (fun _ k_ => XS.iconst X27.here hx rfl (hb hby at_226) k_) ?_
  refine own_spV (q := 228) (S' := [(.int i1), (.int (0 : Int32)), (.ref b27), (.ref b27), (.ref b25), (.ref b25)]) (fun _ k_ => XS.iloadN X27.here hx rfl (hb hby at_227) rfl  k_) ?_
  refine own_spV (q := 231) (S' := [(.int (255 : Int32)), (.int i1), (.int (0 : Int32)), (.ref b27), (.ref b27), (.ref b25), (.ref b25)]) (fun _ k_ => XS.sipush X27.here hx rfl (hb hby at_228) k_) ?_
  refine own_spV (q := 232) (S' := [(.int (i1 &&& (255 : Int32))), (.int (0 : Int32)), (.ref b27), (.ref b27), (.ref b25), (.ref b25)]) (fun _ k_ => XS.iand X27.here hx rfl (hb hby at_231) rfl k_) ?_
  refine own_spV (q := 233) (S' := [(.int ((i1 &&& (255 : Int32)).toUInt32.toUInt16.toUInt32.toInt32)), (.int (0 : Int32)), (.ref b27), (.ref b27), (.ref b25), (.ref b25)]) (fun _ k_ => XS.i2c X27.here hx rfl (hb hby at_232) rfl k_) ?_
  obtain ⟨cl28, Ar28, q28, S28, N28, H28, G28⟩ := id V27
  have hin28 : ¬ ((0 : Int32) < 0 ∨ cl28.slots.size ≤ ((0 : Int32)).toNatClampNeg) := inb_of S28 ⟨by decide, by decide⟩
  obtain ⟨T29, h29, X29, e29, W29, st29⟩ := stC X27 hx hZ e27 Ar28 (j := (0 : Int32)) hin28 (g := (mkF m 233 #[iv i0, iv i1, iv i2, iv i3, iv i4, iv i5, rv ka, rv ra, rv kd, iv tv, iv rq, iv wh, iv hd, iv nc, rv r1, rv r2, rv b3, .unset, .unset, .unset, .unset, .unset, .unset, .unset, .unset, .unset, .unset] [(.int ((i1 &&& (255 : Int32)).toUInt32.toUInt16.toUInt32.toInt32)), (.int (0 : Int32)), (.ref b27), (.ref b27), (.ref b25), (.ref b25)])) rfl rfl (hb hby at_233)
  have V29 : Arv Z h29 b27 k27 .char (2 : Int32) [(.int (nar .char ((i1 &&& (255 : Int32)).toUInt32.toUInt16.toUInt32.toInt32))), (.int (0 : Int32))] (.int (0 : Int32)) := Arv.set Ar28 q28 S28 N28 H28 G28 (fits_nar_char _) W29 0 rfl (Nat.le_of_ble_eq_true rfl)
  have Vn29 : Arv Z h29 b27 k27 .char (2 : Int32) [(.int (i1 &&& (255 : Int32))), (.int (0 : Int32))] (.int (0 : Int32)) := by simpa only [own_nc] using V29
  have Nx29 := Fr.snoc X29 N23 fr27
  refine own_spV (q := 234) (S' := [(.ref b27), (.ref b25), (.ref b25)]) st29 ?_
  clear hin28 G28 H28 N28 S28 q28 Ar28 cl28 st29
  refine own_spV (q := 235) (S' := [(.ref b27), (.ref b27), (.ref b25), (.ref b25)]) (fun _ k_ => XS.dup X29.here hx rfl (hb hby at_234) rfl rfl k_) ?_
  refine own_spV (q := 236) (S' := [(.int (1 : Int32)), (.ref b27), (.ref b27), (.ref b25), (.ref b25)]) (fun _ k_ => XS.iconst X29.here hx rfl (hb hby at_235) k_) ?_
  refine own_spV (q := 237) (S' := [(.int i1), (.int (1 : Int32)), (.ref b27), (.ref b27), (.ref b25), (.ref b25)]) (fun _ k_ => XS.iloadN X29.here hx rfl (hb hby at_236) rfl  k_) ?_
  refine own_spV (q := 239) (S' := [(.int (8 : Int32)), (.int i1), (.int (1 : Int32)), (.ref b27), (.ref b27), (.ref b25), (.ref b25)]) (fun _ k_ => XS.bipush X29.here hx rfl (hb hby at_237) k_) ?_
  refine own_spV (q := 240) (S' := [(.int ((i1.toUInt32 >>> ((8 : Int32) &&& 31).toUInt32).toInt32)), (.int (1 : Int32)), (.ref b27), (.ref b27), (.ref b25), (.ref b25)]) (fun _ k_ => XS.iushr X29.here hx rfl (hb hby at_239) rfl k_) ?_
  refine own_spV (q := 243) (S' := [(.int (255 : Int32)), (.int ((i1.toUInt32 >>> ((8 : Int32) &&& 31).toUInt32).toInt32)), (.int (1 : Int32)), (.ref b27), (.ref b27), (.ref b25), (.ref b25)]) (fun _ k_ => XS.sipush X29.here hx rfl (hb hby at_240) k_) ?_
  refine own_spV (q := 244) (S' := [(.int (((i1.toUInt32 >>> ((8 : Int32) &&& 31).toUInt32).toInt32) &&& (255 : Int32))), (.int (1 : Int32)), (.ref b27), (.ref b27), (.ref b25), (.ref b25)]) (fun _ k_ => XS.iand X29.here hx rfl (hb hby at_243) rfl k_) ?_
  refine own_spV (q := 245) (S' := [(.int ((((i1.toUInt32 >>> ((8 : Int32) &&& 31).toUInt32).toInt32) &&& (255 : Int32)).toUInt32.toUInt16.toUInt32.toInt32)), (.int (1 : Int32)), (.ref b27), (.ref b27), (.ref b25), (.ref b25)]) (fun _ k_ => XS.i2c X29.here hx rfl (hb hby at_244) rfl k_) ?_
  obtain ⟨cl30, Ar30, q30, S30, N30, H30, G30⟩ := id Vn29
  have hin30 : ¬ ((1 : Int32) < 0 ∨ cl30.slots.size ≤ ((1 : Int32)).toNatClampNeg) := inb_of S30 ⟨by decide, by decide⟩
  obtain ⟨T31, h31, X31, e31, W31, st31⟩ := stC X29 hx hZ e29 Ar30 (j := (1 : Int32)) hin30 (g := (mkF m 245 #[iv i0, iv i1, iv i2, iv i3, iv i4, iv i5, rv ka, rv ra, rv kd, iv tv, iv rq, iv wh, iv hd, iv nc, rv r1, rv r2, rv b3, .unset, .unset, .unset, .unset, .unset, .unset, .unset, .unset, .unset, .unset] [(.int ((((i1.toUInt32 >>> ((8 : Int32) &&& 31).toUInt32).toInt32) &&& (255 : Int32)).toUInt32.toUInt16.toUInt32.toInt32)), (.int (1 : Int32)), (.ref b27), (.ref b27), (.ref b25), (.ref b25)])) rfl rfl (hb hby at_245)
  have V31 : Arv Z h31 b27 k27 .char (2 : Int32) [(.int (i1 &&& (255 : Int32))), (.int (nar .char ((((i1.toUInt32 >>> ((8 : Int32) &&& 31).toUInt32).toInt32) &&& (255 : Int32)).toUInt32.toUInt16.toUInt32.toInt32)))] (.int (0 : Int32)) := Arv.set Ar30 q30 S30 N30 H30 G30 (fits_nar_char _) W31 1 rfl (Nat.le_of_ble_eq_true rfl)
  have Vn31 : Arv Z h31 b27 k27 .char (2 : Int32) [(.int (i1 &&& (255 : Int32))), (.int (((i1.toUInt32 >>> ((8 : Int32) &&& 31).toUInt32).toInt32) &&& (255 : Int32)))] (.int (0 : Int32)) := by simpa only [own_nc] using V31
  have Nx31 := Fr.snoc X31 Nx29 fr27
  refine own_spV (q := 246) (S' := [(.ref b27), (.ref b25), (.ref b25)]) st31 ?_
  clear hin30 G30 H30 N30 S30 q30 Ar30 cl30 st31
  have f32 := A25.ext E27
  have f33 := f32.wr W29
  have f34 := f33.wr W31
  have f35 := F25_value.ext E27
  have ne36 : b25 ≠ b27 := Nat.ne_of_lt (Nat.lt_of_lt_of_le A25.lt (Nat.le_of_eq g27.symm))
  have f37 := f35.other W29 (Or.inl ne36)
  have f38 := f37.other W31 (Or.inl ne36)
  have f39 := F25_coder.ext E27
  have f40 := f39.other W29 (Or.inl ne36)
  have f41 := f40.other W31 (Or.inl ne36)
  have f42 := f26.ext E27
  have f43 := f42.wr W29 fr27
  have f44 := f43.wr W31 fr27
  refine own_kcI own_ckV X31 hx hZ hown hml (y := own_m4) rfl (wd hw 31 rfl) (wd hw 32 rfl) (wd hw 29 rfl) (wd hw 33 rfl) (by decide) (a := b25) (rm_ini1_2 l Z a0 hw [] b25 b27 k27 cz (i1 &&& (255 : Int32)) (((i1.toUInt32 >>> ((8 : Int32) &&& 31).toUInt32).toInt32) &&& (255 : Int32)) h31 n0 f44 f34 f38 f41 fr25 Vn31 SC hcz (own_r255 _).2 (own_r255 _).2) (by decide) (by decide) (W := 1) (Nat.le_of_eq rfl) (argsL := [(.ref b27)]) (rest := [(.ref b25)]) (lenOf pd___C_V rfl) rfl rfl (hb hby at_246) rfl e31 (by decide) (by decide) (c' := 8) (s' := 25) rfl rfl (q := 249) rfl fun _ T45 L45 X45 hQ45 => ?_
  obtain ⟨t45, kb45, rfl, Nq45, K45, fq45_0, fq45_1, fq45_2, fq45_3, xq45_fresh_t⟩ := hQ45
  have N45 := Fr.app Nx31 Nq45
  show own_V p e below s _ _ _ T45 (mkF m 249 _ [(.ref b25)])
  refine own_stV (T' := T45) (g' := (mkF m 251 #[iv i0, iv i1, iv i2, iv i3, iv i4, iv i5, rv ka, rv ra, rv kd, iv tv, iv rq, iv wh, iv hd, iv nc, rv r1, rv r2, rv b3, rv b25, .unset, .unset, .unset, .unset, .unset, .unset, .unset, .unset, .unset] [])) (fun _ k_ => XS.astore X45.here hx rfl (hb hby at_249) rfl rfl (l' := #[iv i0, iv i1, iv i2, iv i3, iv i4, iv i5, rv ka, rv ra, rv kd, iv tv, iv rq, iv wh, iv hd, iv nc, rv r1, rv r2, rv b3, rv b25, .unset, .unset, .unset, .unset, .unset, .unset, .unset, .unset, .unset]) rfl k_) ?_
  have f46 := f44.keep K45 (allS fr25 all0)
  obtain ⟨T47, h47, X47, e47, E47, A47, D47, -, st47⟩ := newO X45 hx hZ hown (wd hw 27 rfl) (wd hw 28 rfl) (wd hw 29 rfl) rfl (g := (mkF m 251 #[iv i0, iv i1, iv i2, iv i3, iv i4, iv i5, rv ka, rv ra, rv kd, iv tv, iv rq, iv wh, iv hd, iv nc, rv r1, rv r2, rv b3, rv b25, .unset, .unset, .unset, .unset, .unset, .unset, .unset, .unset, .unset] [])) rfl (hb hby at_251) (by decide) (by decide)
  obtain ⟨b47, g47⟩ : ∃ z, z = T45.heap.size := ⟨_, rfl⟩
  rw [← g47] at A47 D47 st47
  have fr47 : n0 ≤ b47 := Nat.le_trans (own_z f46) (Nat.le_of_eq g47.symm)
  have F47_coder : Fld Z h47 b47 ks10 "coder" "B" (.int (0 : Int32)) := D47 (Or.inr (wd hw 54 rfl)) (ty := .byte) (by decide)
  have F47_value : Fld Z h47 b47 ks10 "value" "[B" .null := D47 (Or.inr (wd hw 56 rfl)) (ty := (.array .byte)) (by decide)
  refine own_spV (q := 254) (S' := [(.ref b47)]) st47 ?_
  clear st47
  refine own_spV (q := 255) (S' := [(.ref b47), (.ref b47)]) (fun _ k_ => XS.dup X47.here hx rfl (hb hby at_254) rfl rfl k_) ?_
  refine own_spV (q := 256) (S' := [(.int (2 : Int32)), (.ref b47), (.ref b47)]) (fun _ k_ => XS.iconst X47.here hx rfl (hb hby at_255) k_) ?_
  have f48 := f46.ext E47
  obtain ⟨T49, h49, k49, X49, e49, E49, A49, st49⟩ := newP X47 hx hZ (wd hw 30 rfl) e47 (g := (mkF m 256 #[iv i0, iv i1, iv i2, iv i3, iv i4, iv i5, rv ka, rv ra, rv kd, iv tv, iv rq, iv wh, iv hd, iv nc, rv r1, rv r2, rv b3, rv b25, .unset, .unset, .unset, .unset, .unset, .unset, .unset, .unset, .unset] [(.int (2 : Int32)), (.ref b47), (.ref b47)])) rfl (hb hby at_256) rfl (by decide) (cap := 2) (by decide) (by decide) (by decide) (by decide)
  obtain ⟨b49, g49⟩ : ∃ z, z = h47.size := ⟨_, rfl⟩
  rw [← g49] at A49 st49
  have fr49 : n0 ≤ b49 := Nat.le_trans (own_z f48) (Nat.le_of_eq g49.symm)
  have V49 : Arv Z h49 b49 k49 .char (2 : Int32) [(.int (0 : Int32)), (.int (0 : Int32))] (.int (0 : Int32)) := (Arv.new A49 (by decide)).pad (pad_rep [] (.int (0 : Int32)) 2)
  refine own_spV (q := 258) (S' := [(.ref b49), (.ref b47), (.ref b47)]) st49 ?_
  clear st49
  refine own_spV (q := 259) (S' := [(.ref b49), (.ref b49), (.ref b47), (.ref b47)]) (fun _ k_ => XS.dup X49.here hx rfl (hb hby at_258) rfl rfl k_) ?_
  refine own_spV (q := 260) (S' := [(.int (0 : Int32)), (.ref b49), (.ref b49), (.ref b47), (.ref b47)]) (fun _ k_ => XS.iconst X49.here hx rfl (hb hby at_259) k_) ?_
  refine own_spV (q := 261) (S' := [(.int i1), (.int (0 : Int32)), (.ref b49), (.ref b49), (.ref b47), (.ref b47)]) (fun _ k_ => XS.iloadN X49.here hx rfl (hb hby at_260) rfl  k_) ?_
  refine own_spV (q := 263) (S' := [(.int (16 : Int32)), (.int i1), (.int (0 : Int32)), (.ref b49), (.ref b49), (.ref b47), (.ref b47)]) (fun _ k_ => XS.bipush X49.here hx rfl (hb hby at_261) k_) ?_
  refine own_spV (q := 264) (S' := [(.int ((i1.toUInt32 >>> ((16 : Int32) &&& 31).toUInt32).toInt32)), (.int (0 : Int32)), (.ref b49), (.ref b49), (.ref b47), (.ref b47)]) (fun _ k_ => XS.iushr X49.here hx rfl (hb hby at_263) rfl k_) ?_
  refine own_spV (q := 267) (S' := [(.int (255 : Int32)), (.int ((i1.toUInt32 >>> ((16 : Int32) &&& 31).toUInt32).toInt32)), (.int (0 : Int32)), (.ref b49), (.ref b49), (.ref b47), (.ref b47)]) (fun _ k_ => XS.sipush X49.here hx rfl (hb hby at_264) k_) ?_
  refine own_spV (q := 268) (S' := [(.int (((i1.toUInt32 >>> ((16 : Int32) &&& 31).toUInt32).toInt32) &&& (255 : Int32))), (.int (0 : Int32)), (.ref b49), (.ref b49), (.ref b47), (.ref b47)]) (fun _ k_ => XS.iand X49.here hx rfl (hb hby at_267) rfl k_) ?_
  refine own_spV (q := 269) (S' := [(.int ((((i1.toUInt32 >>> ((16 : Int32) &&& 31).toUInt32).toInt32) &&& (255 : Int32)).toUInt32.toUInt16.toUInt32.toInt32)), (.int (0 : Int32)), (.ref b49), (.ref b49), (.ref b47), (.ref b47)]) (fun _ k_ => XS.i2c X49.here hx rfl (hb hby at_268) rfl k_) ?_
  obtain ⟨cl50, Ar50, q50, S50, N50, H50, G50⟩ := id V49
  have hin50 : ¬ ((0 : Int32) < 0 ∨ cl50.slots.size ≤ ((0 : Int32)).toNatClampNeg) := inb_of S50 ⟨by decide, by decide⟩
  obtain ⟨T51, h51, X51, e51, W51, st51⟩ := stC X49 hx hZ e49 Ar50 (j := (0 : Int32)) hin50 (g := (mkF m 269 #[iv i0, iv i1, iv i2, iv i3, iv i4, iv i5, rv ka, rv ra, rv kd, iv tv, iv rq, iv wh, iv hd, iv nc, rv r1, rv r2, rv b3, rv b25, .unset, .unset, .unset, .unset, .unset, .unset, .unset, .unset, .unset] [(.int ((((i1.toUInt32 >>> ((16 : Int32) &&& 31).toUInt32).toInt32) &&& (255 : Int32)).toUInt32.toUInt16.toUInt32.toInt32)), (.int (0 : Int32)), (.ref b49), (.ref b49), (.ref b47), (.ref b47)])) rfl rfl (hb hby at_269)
  have V51 : Arv Z h51 b49 k49 .char (2 : Int32) [(.int (nar .char ((((i1.toUInt32 >>> ((16 : Int32) &&& 31).toUInt32).toInt32) &&& (255 : Int32)).toUInt32.toUInt16.toUInt32.toInt32))), (.int (0 : Int32))] (.int (0 : Int32)) := Arv.set Ar50 q50 S50 N50 H50 G50 (fits_nar_char _) W51 0 rfl (Nat.le_of_ble_eq_true rfl)
  have Vn51 : Arv Z h51 b49 k49 .char (2 : Int32) [(.int (((i1.toUInt32 >>> ((16 : Int32) &&& 31).toUInt32).toInt32) &&& (255 : Int32))), (.int (0 : Int32))] (.int (0 : Int32)) := by simpa only [own_nc] using V51
  have Nx51 := Fr.snoc X51 N45 fr49
  refine own_spV (q := 270) (S' := [(.ref b49), (.ref b47), (.ref b47)]) st51 ?_
  clear hin50 G50 H50 N50 S50 q50 Ar50 cl50 st51
  refine own_spV (q := 271) (S' := [(.ref b49), (.ref b49), (.ref b47), (.ref b47)]) (fun _ k_ => XS.dup X51.here hx rfl (hb hby at_270) rfl rfl k_) ?_
  refine own_spV (q := 272) (S' := [(.int (1 : Int32)), (.ref b49), (.ref b49), (.ref b47), (.ref b47)]) (fun _ k_ => XS.iconst X51.here hx rfl (hb hby at_271) k_) ?_
  refine own_spV (q := 273) (S' := [(.int i1), (.int (1 : Int32)), (.ref b49), (.ref b49), (.ref b47), (.ref b47)]) (fun _ k_ => XS.iloadN X51.here hx rfl (hb hby at_272) rfl  k_) ?_
  refine own_spV (q := 275) (S' := [(.int (24 : Int32)), (.int i1), (.int (1 : Int32)), (.ref b49), (.ref b49), (.ref b47), (.ref b47)]) (fun _ k_ => XS.bipush X51.here hx rfl (hb hby at_273) k_) ?_
  refine own_spV (q := 276) (S' := [(.int ((i1.toUInt32 >>> ((24 : Int32) &&& 31).toUInt32).toInt32)), (.int (1 : Int32)), (.ref b49), (.ref b49), (.ref b47), (.ref b47)]) (fun _ k_ => XS.iushr X51.here hx rfl (hb hby at_275) rfl k_) ?_
  refine own_spV (q := 279) (S' := [(.int (255 : Int32)), (.int ((i1.toUInt32 >>> ((24 : Int32) &&& 31).toUInt32).toInt32)), (.int (1 : Int32)), (.ref b49), (.ref b49), (.ref b47), (.ref b47)]) (fun _ k_ => XS.sipush X51.here hx rfl (hb hby at_276) k_) ?_
  refine own_spV (q := 280) (S' := [(.int (((i1.toUInt32 >>> ((24 : Int32) &&& 31).toUInt32).toInt32) &&& (255 : Int32))), (.int (1 : Int32)), (.ref b49), (.ref b49), (.ref b47), (.ref b47)]) (fun _ k_ => XS.iand X51.here hx rfl (hb hby at_279) rfl k_) ?_
  refine own_spV (q := 281) (S' := [(.int ((((i1.toUInt32 >>> ((24 : Int32) &&& 31).toUInt32).toInt32) &&& (255 : Int32)).toUInt32.toUInt16.toUInt32.toInt32)), (.int (1 : Int32)), (.ref b49), (.ref b49), (.ref b47), (.ref b47)]) (fun _ k_ => XS.i2c X51.here hx rfl (hb hby at_280) rfl k_) ?_
  obtain ⟨cl52, Ar52, q52, S52, N52, H52, G52⟩ := id Vn51
  have hin52 : ¬ ((1 : Int32) < 0 ∨ cl52.slots.size ≤ ((1 : Int32)).toNatClampNeg) := inb_of S52 ⟨by decide, by decide⟩
  obtain ⟨T53, h53, X53, e53, W53, st53⟩ := stC X51 hx hZ e51 Ar52 (j := (1 : Int32)) hin52 (g := (mkF m 281 #[iv i0, iv i1, iv i2, iv i3, iv i4, iv i5, rv ka, rv ra, rv kd, iv tv, iv rq, iv wh, iv hd, iv nc, rv r1, rv r2, rv b3, rv b25, .unset, .unset, .unset, .unset, .unset, .unset, .unset, .unset, .unset] [(.int ((((i1.toUInt32 >>> ((24 : Int32) &&& 31).toUInt32).toInt32) &&& (255 : Int32)).toUInt32.toUInt16.toUInt32.toInt32)), (.int (1 : Int32)), (.ref b49), (.ref b49), (.ref b47), (.ref b47)])) rfl rfl (hb hby at_281)
  have V53 : Arv Z h53 b49 k49 .char (2 : Int32) [(.int (((i1.toUInt32 >>> ((16 : Int32) &&& 31).toUInt32).toInt32) &&& (255 : Int32))), (.int (nar .char ((((i1.toUInt32 >>> ((24 : Int32) &&& 31).toUInt32).toInt32) &&& (255 : Int32)).toUInt32.toUInt16.toUInt32.toInt32)))] (.int (0 : Int32)) := Arv.set Ar52 q52 S52 N52 H52 G52 (fits_nar_char _) W53 1 rfl (Nat.le_of_ble_eq_true rfl)
  have Vn53 : Arv Z h53 b49 k49 .char (2 : Int32) [(.int (((i1.toUInt32 >>> ((16 : Int32) &&& 31).toUInt32).toInt32) &&& (255 : Int32))), (.int (((i1.toUInt32 >>> ((24 : Int32) &&& 31).toUInt32).toInt32) &&& (255 : Int32)))] (.int (0 : Int32)) := by simpa only [own_nc] using V53
  have Nx53 := Fr.snoc X53 Nx51 fr49
  refine own_spV (q := 282) (S' := [(.ref b49), (.ref b47), (.ref b47)]) st53 ?_
  clear hin52 G52 H52 N52 S52 q52 Ar52 cl52 st53
  have f54 := A47.ext E49
  have f55 := f54.wr W51
  have f56 := f55.wr W53
  have f57 := F47_value.ext E49
  have ne58 : b47 ≠ b49 := Nat.ne_of_lt (Nat.lt_of_lt_of_le A47.lt (Nat.le_of_eq g49.symm))
  have f59 := f57.other W51 (Or.inl ne58)
  have f60 := f59.other W53 (Or.inl ne58)
  have f61 := F47_coder.ext E49
  have f62 := f61.other W51 (Or.inl ne58)
  have f63 := f62.other W53 (Or.inl ne58)
  have f64 := f48.ext E49
  have f65 := f64.wr W51 fr49
  have f66 := f65.wr W53 fr49
  refine own_kcI own_ckV X53 hx hZ hown hml (y := own_m4) rfl (wd hw 31 rfl) (wd hw 32 rfl) (wd hw 29 rfl) (wd hw 33 rfl) (by decide) (a := b47) (rm_ini1_2 l Z a0 hw [] b47 b49 k49 cz (((i1.toUInt32 >>> ((16 : Int32) &&& 31).toUInt32).toInt32) &&& (255 : Int32)) (((i1.toUInt32 >>> ((24 : Int32) &&& 31).toUInt32).toInt32) &&& (255 : Int32)) h53 n0 f66 f56 f60 f63 fr47 Vn53 SC hcz (own_r255 _).2 (own_r255 _).2) (by decide) (by decide) (W := 1) (Nat.le_of_eq rfl) (argsL := [(.ref b49)]) (rest := [(.ref b47)]) (lenOf pd___C_V rfl) rfl rfl (hb hby at_282) rfl e53 (by decide) (by decide) (c' := 11) (s' := 33) rfl rfl (q := 285) rfl fun _ T67 L67 X67 hQ67 => ?_
  obtain ⟨t67, kb67, rfl, Nq67, K67, fq67_0, fq67_1, fq67_2, fq67_3, xq67_fresh_t⟩ := hQ67
  have N67 := Fr.app Nx53 Nq67
  show own_V p e below s _ _ _ T67 (mkF m 285 _ [(.ref b47)])
  refine own_stV (T' := T67) (g' := (mkF m 287 #[iv i0, iv i1, iv i2, iv i3, iv i4, iv i5, rv ka, rv ra, rv kd, iv tv, iv rq, iv wh, iv hd, iv nc, rv r1, rv r2, rv b3, rv b25, rv b47, .unset, .unset, .unset, .unset, .unset, .unset, .unset, .unset] [])) (fun _ k_ => XS.astore X67.here hx rfl (hb hby at_285) rfl rfl (l' := #[iv i0, iv i1, iv i2, iv i3, iv i4, iv i5, rv ka, rv ra, rv kd, iv tv, iv rq, iv wh, iv hd, iv nc, rv r1, rv r2, rv b3, rv b25, rv b47, .unset, .unset, .unset, .unset, .unset, .unset, .unset, .unset]) rfl k_) ?_
  refine own_spV (q := 288) (S' := [(.int i2)]) (fun _ k_ => XS.iloadN X67.here hx rfl (hb hby at_287) rfl  k_) ?_
  refine own_spV (q := 291) (S' := [(.int (255 : Int32)), (.int i2)]) (fun _ k_ => XS.sipush X67.here hx rfl (hb hby at_288) k_) ?_
  refine own_spV (q := 292) (S' := [(.int (i2 &&& (255 : Int32)))]) (fun _ k_ => XS.iand X67.here hx rfl (hb hby at_291) rfl k_) ?_
  refine own_spV (q := 293) (S' := [(.int ((i2 &&& (255 : Int32)).toUInt32.toUInt16.toUInt32.toInt32))]) (fun _ k_ => XS.i2c X67.here hx rfl (hb hby at_292) rfl k_) ?_
  have f68 := f66.keep K67 (allS fr47 all0)
  refine own_kcS own_ckV X67 hx hZ hown hml (y := own_m8) (wd hw 57 rfl) (wd hw 58 rfl) (wd hw 29 rfl) (wd hw 59 rfl) (by decide) (rm_vof l Z a0 hw [] ((i2 &&& (255 : Int32)).toUInt32.toUInt16.toUInt32.toInt32) cz T67.heap n0 f68 SC hcz (by rw [i2c_mask]; exact (own_r255 _).2)) (by decide) (by decide) (W := 0) (Nat.le_of_eq rfl) (argsL := [(.int ((i2 &&& (255 : Int32)).toUInt32.toUInt16.toUInt32.toInt32))]) (rest := []) (lenOf pd__C_Ljava_lang_String_ rfl) rfl rfl (hb hby at_293) rfl rfl (by decide) (by decide) (c' := 13) (s' := 38) rfl rfl (q := 296) rfl fun _ T69 L69 X69 hQ69 => ?_
  obtain ⟨b69, rfl, Nq69, K69, fq69_0, xq69_fresh_b⟩ := hQ69
  have N69 := Fr.app N67 Nq69
  show own_V p e below s _ _ _ T69 (mkF m 296 _ [(.ref b69)])
  refine own_stV (T' := T69) (g' := (mkF m 298 #[iv i0, iv i1, iv i2, iv i3, iv i4, iv i5, rv ka, rv ra, rv kd, iv tv, iv rq, iv wh, iv hd, iv nc, rv r1, rv r2, rv b3, rv b25, rv b47, rv b69, .unset, .unset, .unset, .unset, .unset, .unset, .unset] [])) (fun _ k_ => XS.astore X69.here hx rfl (hb hby at_296) rfl rfl (l' := #[iv i0, iv i1, iv i2, iv i3, iv i4, iv i5, rv ka, rv ra, rv kd, iv tv, iv rq, iv wh, iv hd, iv nc, rv r1, rv r2, rv b3, rv b25, rv b47, rv b69, .unset, .unset, .unset, .unset, .unset, .unset, .unset]) rfl k_) ?_
  refine own_spV (q := 299) (S' := [(.int i2)]) (fun _ k_ => XS.iloadN X69.here hx rfl (hb hby at_298) rfl  k_) ?_
  refine own_spV (q := 301) (S' := [(.int (8 : Int32)), (.int i2)]) (fun _ k_ => XS.bipush X69.here hx rfl (hb hby at_299) k_) ?_
  refine own_spV (q := 302) (S' := [(.int ((i2.toUInt32 >>> ((8 : Int32) &&& 31).toUInt32).toInt32))]) (fun _ k_ => XS.iushr X69.here hx rfl (hb hby at_301) rfl k_) ?_
  refine own_spV (q := 305) (S' := [(.int (255 : Int32)), (.int ((i2.toUInt32 >>> ((8 : Int32) &&& 31).toUInt32).toInt32))]) (fun _ k_ => XS.sipush X69.here hx rfl (hb hby at_302) k_) ?_
  refine own_spV (q := 306) (S' := [(.int (((i2.toUInt32 >>> ((8 : Int32) &&& 31).toUInt32).toInt32) &&& (255 : Int32)))]) (fun _ k_ => XS.iand X69.here hx rfl (hb hby at_305) rfl k_) ?_
  refine own_spV (q := 307) (S' := [(.int ((((i2.toUInt32 >>> ((8 : Int32) &&& 31).toUInt32).toInt32) &&& (255 : Int32)).toUInt32.toUInt16.toUInt32.toInt32))]) (fun _ k_ => XS.i2c X69.here hx rfl (hb hby at_306) rfl k_) ?_
  have f70 := f68.keep K69 all0
  refine own_kcS own_ckV X69 hx hZ hown hml (y := own_m8) (wd hw 57 rfl) (wd hw 58 rfl) (wd hw 29 rfl) (wd hw 59 rfl) (by decide) (rm_vof l Z a0 hw [] ((((i2.toUInt32 >>> ((8 : Int32) &&& 31).toUInt32).toInt32) &&& (255 : Int32)).toUInt32.toUInt16.toUInt32.toInt32) cz T69.heap n0 f70 SC hcz (by rw [i2c_mask]; exact (own_r255 _).2)) (by decide) (by decide) (W := 0) (Nat.le_of_eq rfl) (argsL := [(.int ((((i2.toUInt32 >>> ((8 : Int32) &&& 31).toUInt32).toInt32) &&& (255 : Int32)).toUInt32.toUInt16.toUInt32.toInt32))]) (rest := []) (lenOf pd__C_Ljava_lang_String_ rfl) rfl rfl (hb hby at_307) rfl rfl (by decide) (by decide) (c' := 15) (s' := 43) rfl rfl (q := 310) rfl fun _ T71 L71 X71 hQ71 => ?_
  obtain ⟨b71, rfl, Nq71, K71, fq71_0, xq71_fresh_b⟩ := hQ71
  have N71 := Fr.app N69 Nq71
  show own_V p e below s _ _ _ T71 (mkF m 310 _ [(.ref b71)])
  refine own_stV (T' := T71) (g' := (mkF m 312 #[iv i0, iv i1, iv i2, iv i3, iv i4, iv i5, rv ka, rv ra, rv kd, iv tv, iv rq, iv wh, iv hd, iv nc, rv r1, rv r2, rv b3, rv b25, rv b47, rv b69, rv b71, .unset, .unset, .unset, .unset, .unset, .unset] [])) (fun _ k_ => XS.astore X71.here hx rfl (hb hby at_310) rfl rfl (l' := #[iv i0, iv i1, iv i2, iv i3, iv i4, iv i5, rv ka, rv ra, rv kd, iv tv, iv rq, iv wh, iv hd, iv nc, rv r1, rv r2, rv b3, rv b25, rv b47, rv b69, rv b71, .unset, .unset, .unset, .unset, .unset, .unset]) rfl k_) ?_
  refine own_spV (q := 313) (S' := [(.int i2)]) (fun _ k_ => XS.iloadN X71.here hx rfl (hb hby at_312) rfl  k_) ?_
  refine own_spV (q := 315) (S' := [(.int (16 : Int32)), (.int i2)]) (fun _ k_ => XS.bipush X71.here hx rfl (hb hby at_313) k_) ?_
  refine own_spV (q := 316) (S' := [(.int ((i2.toUInt32 >>> ((16 : Int32) &&& 31).toUInt32).toInt32))]) (fun _ k_ => XS.iushr X71.here hx rfl (hb hby at_315) rfl k_) ?_
  refine own_spV (q := 319) (S' := [(.int (255 : Int32)), (.int ((i2.toUInt32 >>> ((16 : Int32) &&& 31).toUInt32).toInt32))]) (fun _ k_ => XS.sipush X71.here hx rfl (hb hby at_316) k_) ?_
  refine own_spV (q := 320) (S' := [(.int (((i2.toUInt32 >>> ((16 : Int32) &&& 31).toUInt32).toInt32) &&& (255 : Int32)))]) (fun _ k_ => XS.iand X71.here hx rfl (hb hby at_319) rfl k_) ?_
  refine own_spV (q := 321) (S' := [(.int ((((i2.toUInt32 >>> ((16 : Int32) &&& 31).toUInt32).toInt32) &&& (255 : Int32)).toUInt32.toUInt16.toUInt32.toInt32))]) (fun _ k_ => XS.i2c X71.here hx rfl (hb hby at_320) rfl k_) ?_
  have f72 := f70.keep K71 all0
  refine own_kcS own_ckV X71 hx hZ hown hml (y := own_m8) (wd hw 57 rfl) (wd hw 58 rfl) (wd hw 29 rfl) (wd hw 59 rfl) (by decide) (rm_vof l Z a0 hw [] ((((i2.toUInt32 >>> ((16 : Int32) &&& 31).toUInt32).toInt32) &&& (255 : Int32)).toUInt32.toUInt16.toUInt32.toInt32) cz T71.heap n0 f72 SC hcz (by rw [i2c_mask]; exact (own_r255 _).2)) (by decide) (by decide) (W := 0) (Nat.le_of_eq rfl) (argsL := [(.int ((((i2.toUInt32 >>> ((16 : Int32) &&& 31).toUInt32).toInt32) &&& (255 : Int32)).toUInt32.toUInt16.toUInt32.toInt32))]) (rest := []) (lenOf pd__C_Ljava_lang_String_ rfl) rfl rfl (hb hby at_321) rfl rfl (by decide) (by decide) (c' := 17) (s' := 48) rfl rfl (q := 324) rfl fun _ T73 L73 X73 hQ73 => ?_
  obtain ⟨b73, rfl, Nq73, K73, fq73_0, xq73_fresh_b⟩ := hQ73
  have N73 := Fr.app N71 Nq73
  show own_V p e below s _ _ _ T73 (mkF m 324 _ [(.ref b73)])
  refine own_stV (T' := T73) (g' := (mkF m 326 #[iv i0, iv i1, iv i2, iv i3, iv i4, iv i5, rv ka, rv ra, rv kd, iv tv, iv rq, iv wh, iv hd, iv nc, rv r1, rv r2, rv b3, rv b25, rv b47, rv b69, rv b71, rv b73, .unset, .unset, .unset, .unset, .unset] [])) (fun _ k_ => XS.astore X73.here hx rfl (hb hby at_324) rfl rfl (l' := #[iv i0, iv i1, iv i2, iv i3, iv i4, iv i5, rv ka, rv ra, rv kd, iv tv, iv rq, iv wh, iv hd, iv nc, rv r1, rv r2, rv b3, rv b25, rv b47, rv b69, rv b71, rv b73, .unset, .unset, .unset, .unset, .unset]) rfl k_) ?_
  have f74 := f72.keep K73 all0
  obtain ⟨T75, h75, X75, e75, E75, A75, D75, -, st75⟩ := newO X73 hx hZ hown (wd hw 71 rfl) (wd hw 72 rfl) (wd hw 73 rfl) rfl (g := (mkF m 326 #[iv i0, iv i1, iv i2, iv i3, iv i4, iv i5, rv ka, rv ra, rv kd, iv tv, iv rq, iv wh, iv hd, iv nc, rv r1, rv r2, rv b3, rv b25, rv b47, rv b69, rv b71, rv b73, .unset, .unset, .unset, .unset, .unset] [])) rfl (hb hby at_326) (by decide) (by decide)
  obtain ⟨b75, g75⟩ : ∃ z, z = T73.heap.size := ⟨_, rfl⟩
  rw [← g75] at A75 D75 st75
  have fr75 : n0 ≤ b75 := Nat.le_trans (own_z f74) (Nat.le_of_eq g75.symm)
  have F75_modCount : Fld Z h75 b75 ks17 "modCount" "I" (.int (0 : Int32)) := D75 (Or.inl (wd hw 91 rfl)) (ty := .int) (by decide)
  have F75_elementData : Fld Z h75 b75 ks6 ks20 ks8 .null := D75 (Or.inl (wd hw 94 rfl)) (ty := (.array (.object ks2))) (by decide)
  have F75_size : Fld Z h75 b75 ks6 "size" "I" (.int (0 : Int32)) := D75 (Or.inl (wd hw 260 rfl)) (ty := .int) (by decide)
  refine own_spV (q := 329) (S' := [(.ref b75)]) st75 ?_
  clear st75
  refine own_spV (q := 330) (S' := [(.ref b75), (.ref b75)]) (fun _ k_ => XS.dup X75.here hx rfl (hb hby at_329) rfl rfl k_) ?_
  have f76 := f74.ext E75
  refine own_kcI own_ckV X75 hx hZ hown hml (y := own_m11) rfl (wd hw 74 rfl) (wd hw 75 rfl) (wd hw 73 rfl) (wd hw 76 rfl) (by decide) (a := b75) (rm_ali l Z a0 hw [] b75 dA h75 n0 f76 A75 F75_elementData F75_size F75_modCount fr75 SDe) (by decide) (by decide) (W := 1) (Nat.le_of_eq rfl) (argsL := []) (rest := [(.ref b75)]) (lenOf pd___V rfl) rfl rfl (hb hby at_330) rfl e75 (by decide) (by decide) (c' := 18) (s' := 51) rfl rfl (q := 333) rfl fun _ T77 L77 X77 hQ77 => ?_
  obtain ⟨rfl, Nq77, K77, fq77_0, fq77_1, fq77_2, fq77_3⟩ := hQ77
  have N77 := Fr.app N73 Nq77
  show own_V p e below s _ _ _ T77 (mkF m 333 _ [(.ref b75)])
  refine own_stV (T' := T77) (g' := (mkF m 335 #[iv i0, iv i1, iv i2, iv i3, iv i4, iv i5, rv ka, rv ra, rv kd, iv tv, iv rq, iv wh, iv hd, iv nc, rv r1, rv r2, rv b3, rv b25, rv b47, rv b69, rv b71, rv b73, rv b75, .unset, .unset, .unset, .unset] [])) (fun _ k_ => XS.astore X77.here hx rfl (hb hby at_333) rfl rfl (l' := #[iv i0, iv i1, iv i2, iv i3, iv i4, iv i5, rv ka, rv ra, rv kd, iv tv, iv rq, iv wh, iv hd, iv nc, rv r1, rv r2, rv b3, rv b25, rv b47, rv b69, rv b71, rv b73, rv b75, .unset, .unset, .unset, .unset]) rfl k_) ?_
  have f78 := f76.keep K77 (allS fr75 all0)
  have hye_ : b71 ≠ em := Ne.symm (Old.ne f78 X_em.lt (Nat.le_trans (own_z f70) xq71_fresh_b))
  have f79 := fq23_0.ext E25
  have f80 := f79.ext E27
  have f81 := f80.wr W29
  have f82 := f81.wr W31
  have f83 := f82.keep K45
  have f84 := f83.ext E47
  have f85 := f84.ext E49
  have f86 := f85.wr W51
  have f87 := f86.wr W53
  have f88 := f87.keep K67
  have f89 := f88.keep K69
  have f90 := f89.keep K71
  have f91 := f90.keep K73
  have f92 := f91.ext E75
  have f93 := f92.keep K77
  have f94 := fq45_0.ext E47
  have f95 := f94.ext E49
  have f96 := f95.wr W51
  have f97 := f96.wr W53
  have f98 := f97.keep K67
  have f99 := f98.keep K69
  have f100 := f99.keep K71
  have f101 := f100.keep K73
  have f102 := f101.ext E75
  have f103 := f102.keep K77
  have f104 := fq67_0.keep K69
  have f105 := f104.keep K71
  have f106 := f105.keep K73
  have f107 := f106.ext E75
  have f108 := f107.keep K77
  have f109 := fq69_0.keep K71
  have f110 := f109.keep K73
  have f111 := f110.ext E75
  have f112 := f111.keep K77
  have f113 := fq71_0.keep K73
  have f114 := f113.ext E75
  have f115 := f114.keep K77
  have f116 := fq73_0.ext E75
  have f117 := f116.keep K77
  rcases hN with rfl | rfl | rfl | rfl
  · exact seg_B0 h0 T77.heap n0 i0 i1 i2 i3 i4 i5 ka ra kd tv rq wh hd r1 r2 b3 b25 b47 b69 b71 b73 b75 w_TEXT w_OPTION w_METHOD w_TARGET w_BODY w_TIME w_NONCE dA clD kO mir em el oe cz (X77.mono (by decide) (by decide)) hx hZs hZ hS0 (Nat.le_trans (Nat.le_trans (Nat.le_trans (Nat.le_trans (Nat.le_trans (Nat.le_trans (Nat.le_trans (Nat.le_trans (Nat.le_trans (Nat.le_trans (Nat.le_trans (Nat.le_trans (Nat.le_trans (Nat.le_trans (Nat.le_trans (Nat.le_trans (Nat.le_trans (Nat.le_trans (Nat.le_trans (Nat.le_trans hk0 E3.1) E5.1) (Nat.le_of_eq (Wr.size W7).symm)) (Nat.le_of_eq (Wr.size W9).symm)) K23.1) E25.1) E27.1) (Nat.le_of_eq (Wr.size W29).symm)) (Nat.le_of_eq (Wr.size W31).symm)) K45.1) E47.1) E49.1) (Nat.le_of_eq (Wr.size W51).symm)) (Nat.le_of_eq (Wr.size W53).symm)) K67.1) K69.1) K71.1) K73.1) E75.1) K77.1) hw hby hml howns hown hnm hret hlk rfl N77 f78 HBs f93 f103 X_r1 X_r2 hrq hwn hhd hT1 hT4 fq77_0 fq77_1 fq77_2 fq77_3 fr75
  · exact seg_B1 h0 T77.heap n0 i0 i1 i2 i3 i4 i5 ka ra kd tv rq wh hd r1 r2 b3 b25 b47 b69 b71 b73 b75 w_TEXT w_OPTION w_METHOD w_TARGET w_BODY w_TIME w_NONCE dA clD kO mir em el oe cz (X77.mono (by decide) (by decide)) hx hZs hZ hS0 (Nat.le_trans (Nat.le_trans (Nat.le_trans (Nat.le_trans (Nat.le_trans (Nat.le_trans (Nat.le_trans (Nat.le_trans (Nat.le_trans (Nat.le_trans (Nat.le_trans (Nat.le_trans (Nat.le_trans (Nat.le_trans (Nat.le_trans (Nat.le_trans (Nat.le_trans (Nat.le_trans (Nat.le_trans (Nat.le_trans hk0 E3.1) E5.1) (Nat.le_of_eq (Wr.size W7).symm)) (Nat.le_of_eq (Wr.size W9).symm)) K23.1) E25.1) E27.1) (Nat.le_of_eq (Wr.size W29).symm)) (Nat.le_of_eq (Wr.size W31).symm)) K45.1) E47.1) E49.1) (Nat.le_of_eq (Wr.size W51).symm)) (Nat.le_of_eq (Wr.size W53).symm)) K67.1) K69.1) K71.1) K73.1) E75.1) K77.1) hw hby hml howns hown hnm hret hlk rfl N77 f78 HBs f93 f103 f112 X_r1 X_r2 hrq hwn hhd hT1 hT4 (hT3 (by decide)) fq77_0 fq77_1 fq77_2 fq77_3 fr75
  · exact seg_B2 h0 T77.heap n0 i0 i1 i2 i3 i4 i5 ka ra kd tv rq wh hd r1 r2 b3 b25 b47 b69 b71 b73 b75 w_TEXT w_OPTION w_METHOD w_TARGET w_BODY w_TIME w_NONCE dA clD kO mir em el oe cz (X77.mono (by decide) (by decide)) hx hZs hZ hS0 (Nat.le_trans (Nat.le_trans (Nat.le_trans (Nat.le_trans (Nat.le_trans (Nat.le_trans (Nat.le_trans (Nat.le_trans (Nat.le_trans (Nat.le_trans (Nat.le_trans (Nat.le_trans (Nat.le_trans (Nat.le_trans (Nat.le_trans (Nat.le_trans (Nat.le_trans (Nat.le_trans (Nat.le_trans (Nat.le_trans hk0 E3.1) E5.1) (Nat.le_of_eq (Wr.size W7).symm)) (Nat.le_of_eq (Wr.size W9).symm)) K23.1) E25.1) E27.1) (Nat.le_of_eq (Wr.size W29).symm)) (Nat.le_of_eq (Wr.size W31).symm)) K45.1) E47.1) E49.1) (Nat.le_of_eq (Wr.size W51).symm)) (Nat.le_of_eq (Wr.size W53).symm)) K67.1) K69.1) K71.1) K73.1) E75.1) K77.1) hw hby hml howns hown hnm hret hlk rfl N77 f78 HBs f93 f103 f112 f115 hye_ X_r1 X_r2 hrq hwn hhd hT1 hT4 (hT3 (by decide)) fq77_0 fq77_1 fq77_2 fq77_3 fr75
  · exact seg_B3 h0 T77.heap n0 i0 i1 i2 i3 i4 i5 ka ra kd tv rq wh hd r1 r2 b3 b25 b47 b69 b71 b73 b75 w_TEXT w_OPTION w_METHOD w_TARGET w_BODY w_TIME w_NONCE dA clD kO mir em el oe cz (X77.mono (by decide) (by decide)) hx hZs hZ hS0 (Nat.le_trans (Nat.le_trans (Nat.le_trans (Nat.le_trans (Nat.le_trans (Nat.le_trans (Nat.le_trans (Nat.le_trans (Nat.le_trans (Nat.le_trans (Nat.le_trans (Nat.le_trans (Nat.le_trans (Nat.le_trans (Nat.le_trans (Nat.le_trans (Nat.le_trans (Nat.le_trans (Nat.le_trans (Nat.le_trans hk0 E3.1) E5.1) (Nat.le_of_eq (Wr.size W7).symm)) (Nat.le_of_eq (Wr.size W9).symm)) K23.1) E25.1) E27.1) (Nat.le_of_eq (Wr.size W29).symm)) (Nat.le_of_eq (Wr.size W31).symm)) K45.1) E47.1) E49.1) (Nat.le_of_eq (Wr.size W51).symm)) (Nat.le_of_eq (Wr.size W53).symm)) K67.1) K69.1) K71.1) K73.1) E75.1) K77.1) hw hby hml howns hown hnm hret hlk rfl N77 f78 HBs f93 f103 f112 f115 f117 X_r1 X_r2 hrq hwn hhd hT1 hT4 (hT3 (by decide)) fq77_0 fq77_1 fq77_2 fq77_3 fr75
theorem own_and3 (x : Int32) : x &&& 3 = 0 ∨ x &&& 3 = 1 ∨ x &&& 3 = 2 ∨ x &&& 3 = 3 := by
  have e := c_mask x 3 2 (by decide) (by decide)
  have z : ((2 ^ 2 : Nat) : Int) = 4 := rfl
  have h : (x &&& 3).toInt = 0 ∨ (x &&& 3).toInt = 1 ∨ (x &&& 3).toInt = 2 ∨ (x &&& 3).toInt = 3 := by omega
  rcases h with h | h | h | h
  · exact Or.inl (own_eqI h)
  · exact Or.inr (Or.inl (own_eqI h))
  · exact Or.inr (Or.inr (Or.inl (own_eqI h)))
  · exact Or.inr (Or.inr (Or.inr (own_eqI h)))
theorem own_mod3 (x : Int32) : (x &&& (3 : Int32)) % (3 : Int32) = 0 ∨ (x &&& (3 : Int32)) % (3 : Int32) = 1 ∨ (x &&& (3 : Int32)) % (3 : Int32) = 2 := by
  rcases own_and3 x with h | h | h | h <;> rw [h] <;> decide
theorem seg_s143 (h0 : Heap) (hB : Heap) (n0 : Nat) (i0 : Int32) (i1 : Int32) (i2 : Int32) (i3 : Int32) (i4 : Int32) (i5 : Int32) (ka : Addr) (ra : Addr) (kra : ClassId) (kd : Addr) (tv : Int32) (rq : Int32) (wh : Int32) (hd : Int32) (w_TEXT : Addr) (w_OPTION : Addr) (w_METHOD : Addr) (w_TARGET : Addr) (w_BODY : Addr) (w_TIME : Addr) (w_NONCE : Addr) (dA : Addr) (clD : Cell) (kO : ClassId) (mir : Addr) (em : Addr) (el : Addr) (oe : Addr) (cz : Int32)
    (X0 : Stand p l e room_1 (s.setVm vm0) m args below meth c T0 locs 2 9) (hx : p.tables.exec = Jvm.exec) (hZs : Z.Warmed39 s.vm) (hZ : Z.Warmed39 (s.setVm vm0).vm) (hS0 : s.Since vm0 k0) (hk0 : k0 ≤ hB.size) (hw : own_HW a0 Z) (hby : c.code = code) (hml : c.maxLocals = 27) (howns : s.vm.findClass ks3 = some m.cls) (hown : (s.setVm vm0).vm.findClass ks3 = some m.cls) (hnm : meth.name = "law") (hret : meth.sig.returnType = some .boolean) (hlk : meth.locks = false) (e0 : T0.heap = hB) (N0 : Fr n0 locs) (O0 : Old Z n0 hB) (V_ra : Arv Z hB ra kra (.object ks1) (6 : Int32) [(.ref w_OPTION), (.ref w_METHOD), (.ref w_TARGET), (.ref w_BODY), (.ref w_TIME), (.ref w_NONCE)] .null) (HBs : own_Bs Z w_TEXT w_OPTION w_METHOD w_TARGET w_BODY w_TIME w_NONCE dA clD kO mir em el oe cz) (hT : ¬ tv = (0 : Int32) → kd = w_TEXT) (hrq : own_B rq) (hwn : own_B wh) (hhd : own_B hd) (hT1 : ¬ wh = (0 : Int32) → kd = w_TEXT) (hT4 : ¬ hd = (0 : Int32) → kd = w_TEXT) :
    own_V p e below s room_1.cells room_1.slots (fun v h L _ => own_L n0 v h L) T0 (mkF m 143 #[iv i0, iv i1, iv i2, iv i3, iv i4, iv i5, rv ka, rv ra, rv kd, iv tv, iv rq, iv wh, iv hd, .unset, .unset, .unset, .unset, .unset, .unset, .unset, .unset, .unset, .unset, .unset, .unset, .unset, .unset] []) := by
  obtain ⟨S_TEXT, S_OPTION, X_OPTION, S_METHOD, X_METHOD, S_TARGET, X_TARGET, S_BODY, X_BODY, S_TIME, X_TIME, S_NONCE, X_NONCE, SDe, AD, LD, OV, FC, MIR, SEm, X_em, S_el, IL_el, S_oe, X_oe, F_oe, SC, hcz⟩ := id HBs
  refine own_stV (T' := T0) (g' := (mkF m 145 #[iv i0, iv i1, iv i2, iv i3, iv i4, iv i5, rv ka, rv ra, rv kd, iv tv, iv rq, iv wh, iv hd, .unset, .unset, .unset, .unset, .unset, .unset, .unset, .unset, .unset, .unset, .unset, .unset, .unset, .unset] [(.int tv)])) (fun _ k_ => XS.iload X0.here hx rfl (hb hby at_143) rfl  k_) ?_
  by_cases hc1 : tv = (0 : Int32)
  · refine own_spV (q := 156) (S' := []) (fun _ k_ => XS.ifYes X0.here hx rfl (pc0 := 145) (pc' := 156) rfl (hb hby at_145) rfl ((if0 _ _).trans (teq hc1).1) (by decide) (by decide) k_) ?_
    refine own_spV (q := 157) (S' := [(.int (0 : Int32))]) (fun _ k_ => XS.iconst X0.here hx rfl (hb hby at_156) k_) ?_
    refine own_stV (T' := T0) (g' := (mkF m 159 #[iv i0, iv i1, iv i2, iv i3, iv i4, iv i5, rv ka, rv ra, rv kd, iv tv, iv rq, iv wh, iv hd, iv (0 : Int32), .unset, .unset, .unset, .unset, .unset, .unset, .unset, .unset, .unset, .unset, .unset, .unset, .unset] [])) (fun _ k_ => XS.istore X0.here hx rfl (hb hby at_157) rfl (l' := #[iv i0, iv i1, iv i2, iv i3, iv i4, iv i5, rv ka, rv ra, rv kd, iv tv, iv rq, iv wh, iv hd, iv (0 : Int32), .unset, .unset, .unset, .unset, .unset, .unset, .unset, .unset, .unset, .unset, .unset, .unset, .unset]) rfl k_) ?_
    exact seg_A h0 hB n0 i0 i1 i2 i3 i4 i5 ka ra kra kd tv rq wh hd (0 : Int32) w_TEXT w_OPTION w_METHOD w_TARGET w_BODY w_TIME w_NONCE dA clD kO mir em el oe cz (X0.mono (by decide) (by decide)) hx hZs hZ hS0 hk0 hw hby hml howns hown hnm hret hlk e0 N0 O0 V_ra HBs hrq hwn hhd hT1 hT4 (fun q => absurd rfl q) (Or.inl rfl)
  · refine own_spV (q := 148) (S' := []) (fun _ k_ => XS.ifNo X0.here hx rfl (hb hby at_145) rfl ((if0 _ _).trans (feq hc1).1) k_) ?_
    refine own_spV (q := 149) (S' := [(.int i3)]) (fun _ k_ => XS.iloadN X0.here hx rfl (hb hby at_148) rfl  k_) ?_
    refine own_spV (q := 150) (S' := [(.int (5 : Int32)), (.int i3)]) (fun _ k_ => XS.iconst X0.here hx rfl (hb hby at_149) k_) ?_
    refine own_spV (q := 151) (S' := [(.int ((i3.toUInt32 >>> ((5 : Int32) &&& 31).toUInt32).toInt32))]) (fun _ k_ => XS.iushr X0.here hx rfl (hb hby at_150) rfl k_) ?_
    refine own_spV (q := 152) (S' := [(.int (3 : Int32)), (.int ((i3.toUInt32 >>> ((5 : Int32) &&& 31).toUInt32).toInt32))]) (fun _ k_ => XS.iconst X0.here hx rfl (hb hby at_151) k_) ?_
    refine own_spV (q := 153) (S' := [(.int (((i3.toUInt32 >>> ((5 : Int32) &&& 31).toUInt32).toInt32) &&& (3 : Int32)))]) (fun _ k_ => XS.iand X0.here hx rfl (hb hby at_152) rfl k_) ?_
    refine own_spV (q := 157) (S' := [(.int (((i3.toUInt32 >>> ((5 : Int32) &&& 31).toUInt32).toInt32) &&& (3 : Int32)))]) (fun _ k_ => XS.goto X0.here hx rfl (pc0 := 153) (pc' := 157) rfl (hb hby at_153) (by decide) (by decide) k_) ?_
    refine own_stV (T' := T0) (g' := (mkF m 159 #[iv i0, iv i1, iv i2, iv i3, iv i4, iv i5, rv ka, rv ra, rv kd, iv tv, iv rq, iv wh, iv hd, iv (((i3.toUInt32 >>> ((5 : Int32) &&& 31).toUInt32).toInt32) &&& (3 : Int32)), .unset, .unset, .unset, .unset, .unset, .unset, .unset, .unset, .unset, .unset, .unset, .unset, .unset] [])) (fun _ k_ => XS.istore X0.here hx rfl (hb hby at_157) rfl (l' := #[iv i0, iv i1, iv i2, iv i3, iv i4, iv i5, rv ka, rv ra, rv kd, iv tv, iv rq, iv wh, iv hd, iv (((i3.toUInt32 >>> ((5 : Int32) &&& 31).toUInt32).toInt32) &&& (3 : Int32)), .unset, .unset, .unset, .unset, .unset, .unset, .unset, .unset, .unset, .unset, .unset, .unset, .unset]) rfl k_) ?_
    exact seg_A h0 hB n0 i0 i1 i2 i3 i4 i5 ka ra kra kd tv rq wh hd (((i3.toUInt32 >>> ((5 : Int32) &&& 31).toUInt32).toInt32) &&& (3 : Int32)) w_TEXT w_OPTION w_METHOD w_TARGET w_BODY w_TIME w_NONCE dA clD kO mir em el oe cz (X0.mono (by decide) (by decide)) hx hZs hZ hS0 hk0 hw hby hml howns hown hnm hret hlk e0 N0 O0 V_ra HBs hrq hwn hhd hT1 hT4 (fun _ => hT hc1) (own_and3 _)
theorem seg_s124 (h0 : Heap) (hB : Heap) (n0 : Nat) (i0 : Int32) (i1 : Int32) (i2 : Int32) (i3 : Int32) (i4 : Int32) (i5 : Int32) (ka : Addr) (ra : Addr) (kra : ClassId) (kd : Addr) (tv : Int32) (rq : Int32) (wh : Int32) (w_TEXT : Addr) (w_OPTION : Addr) (w_METHOD : Addr) (w_TARGET : Addr) (w_BODY : Addr) (w_TIME : Addr) (w_NONCE : Addr) (dA : Addr) (clD : Cell) (kO : ClassId) (mir : Addr) (em : Addr) (el : Addr) (oe : Addr) (cz : Int32)
    (X0 : Stand p l e room_1 (s.setVm vm0) m args below meth c T0 locs 2 9) (hx : p.tables.exec = Jvm.exec) (hZs : Z.Warmed39 s.vm) (hZ : Z.Warmed39 (s.setVm vm0).vm) (hS0 : s.Since vm0 k0) (hk0 : k0 ≤ hB.size) (hw : own_HW a0 Z) (hby : c.code = code) (hml : c.maxLocals = 27) (howns : s.vm.findClass ks3 = some m.cls) (hown : (s.setVm vm0).vm.findClass ks3 = some m.cls) (hnm : meth.name = "law") (hret : meth.sig.returnType = some .boolean) (hlk : meth.locks = false) (e0 : T0.heap = hB) (N0 : Fr n0 locs) (O0 : Old Z n0 hB) (V_ra : Arv Z hB ra kra (.object ks1) (6 : Int32) [(.ref w_OPTION), (.ref w_METHOD), (.ref w_TARGET), (.ref w_BODY), (.ref w_TIME), (.ref w_NONCE)] .null) (HBs : own_Bs Z w_TEXT w_OPTION w_METHOD w_TARGET w_BODY w_TIME w_NONCE dA clD kO mir em el oe cz) (hT : ¬ tv = (0 : Int32) → kd = w_TEXT) (hrq : own_B rq) (hwn : own_B wh) (hT1 : ¬ wh = (0 : Int32) → kd = w_TEXT) :
    own_V p e below s room_1.cells room_1.slots (fun v h L _ => own_L n0 v h L) T0 (mkF m 124 #[iv i0, iv i1, iv i2, iv i3, iv i4, iv i5, rv ka, rv ra, rv kd, iv tv, iv rq, iv wh, .unset, .unset, .unset, .unset, .unset, .unset, .unset, .unset, .unset, .unset, .unset, .unset, .unset, .unset, .unset] []) := by
  obtain ⟨S_TEXT, S_OPTION, X_OPTION, S_METHOD, X_METHOD, S_TARGET, X_TARGET, S_BODY, X_BODY, S_TIME, X_TIME, S_NONCE, X_NONCE, SDe, AD, LD, OV, FC, MIR, SEm, X_em, S_el, IL_el, S_oe, X_oe, F_oe, SC, hcz⟩ := id HBs
  refine own_stV (T' := T0) (g' := (mkF m 126 #[iv i0, iv i1, iv i2, iv i3, iv i4, iv i5, rv ka, rv ra, rv kd, iv tv, iv rq, iv wh, .unset, .unset, .unset, .unset, .unset, .unset, .unset, .unset, .unset, .unset, .unset, .unset, .unset, .unset, .unset] [(.int tv)])) (fun _ k_ => XS.iload X0.here hx rfl (hb hby at_124) rfl  k_) ?_
  by_cases hc1 : tv = (0 : Int32)
  · refine own_spV (q := 140) (S' := []) (fun _ k_ => XS.ifYes X0.here hx rfl (pc0 := 126) (pc' := 140) rfl (hb hby at_126) rfl ((if0 _ _).trans (teq hc1).1) (by decide) (by decide) k_) ?_
    refine own_spV (q := 141) (S' := [(.int (0 : Int32))]) (fun _ k_ => XS.iconst X0.here hx rfl (hb hby at_140) k_) ?_
    refine own_stV (T' := T0) (g' := (mkF m 143 #[iv i0, iv i1, iv i2, iv i3, iv i4, iv i5, rv ka, rv ra, rv kd, iv tv, iv rq, iv wh, iv (0 : Int32), .unset, .unset, .unset, .unset, .unset, .unset, .unset, .unset, .unset, .unset, .unset, .unset, .unset, .unset] [])) (fun _ k_ => XS.istore X0.here hx rfl (hb hby at_141) rfl (l' := #[iv i0, iv i1, iv i2, iv i3, iv i4, iv i5, rv ka, rv ra, rv kd, iv tv, iv rq, iv wh, iv (0 : Int32), .unset, .unset, .unset, .unset, .unset, .unset, .unset, .unset, .unset, .unset, .unset, .unset, .unset, .unset]) rfl k_) ?_
    exact seg_s143 h0 hB n0 i0 i1 i2 i3 i4 i5 ka ra kra kd tv rq wh (0 : Int32) w_TEXT w_OPTION w_METHOD w_TARGET w_BODY w_TIME w_NONCE dA clD kO mir em el oe cz (X0.mono (by decide) (by decide)) hx hZs hZ hS0 hk0 hw hby hml howns hown hnm hret hlk e0 N0 O0 V_ra HBs hT hrq hwn (Or.inl rfl) hT1 (fun q => absurd rfl q)
  · refine own_spV (q := 129) (S' := []) (fun _ k_ => XS.ifNo X0.here hx rfl (hb hby at_126) rfl ((if0 _ _).trans (feq hc1).1) k_) ?_
    refine own_spV (q := 130) (S' := [(.int i3)]) (fun _ k_ => XS.iloadN X0.here hx rfl (hb hby at_129) rfl  k_) ?_
    refine own_spV (q := 132) (S' := [(.int (16 : Int32)), (.int i3)]) (fun _ k_ => XS.bipush X0.here hx rfl (hb hby at_130) k_) ?_
    refine own_spV (q := 133) (S' := [(.int (i3 &&& (16 : Int32)))]) (fun _ k_ => XS.iand X0.here hx rfl (hb hby at_132) rfl k_) ?_
    by_cases hc2 : (i3 &&& (16 : Int32)) = (0 : Int32)
    · refine own_spV (q := 140) (S' := []) (fun _ k_ => XS.ifYes X0.here hx rfl (pc0 := 133) (pc' := 140) rfl (hb hby at_133) rfl ((if0 _ _).trans (teq hc2).1) (by decide) (by decide) k_) ?_
      refine own_spV (q := 141) (S' := [(.int (0 : Int32))]) (fun _ k_ => XS.iconst X0.here hx rfl (hb hby at_140) k_) ?_
      refine own_stV (T' := T0) (g' := (mkF m 143 #[iv i0, iv i1, iv i2, iv i3, iv i4, iv i5, rv ka, rv ra, rv kd, iv tv, iv rq, iv wh, iv (0 : Int32), .unset, .unset, .unset, .unset, .unset, .unset, .unset, .unset, .unset, .unset, .unset, .unset, .unset, .unset] [])) (fun _ k_ => XS.istore X0.here hx rfl (hb hby at_141) rfl (l' := #[iv i0, iv i1, iv i2, iv i3, iv i4, iv i5, rv ka, rv ra, rv kd, iv tv, iv rq, iv wh, iv (0 : Int32), .unset, .unset, .unset, .unset, .unset, .unset, .unset, .unset, .unset, .unset, .unset, .unset, .unset, .unset]) rfl k_) ?_
      exact seg_s143 h0 hB n0 i0 i1 i2 i3 i4 i5 ka ra kra kd tv rq wh (0 : Int32) w_TEXT w_OPTION w_METHOD w_TARGET w_BODY w_TIME w_NONCE dA clD kO mir em el oe cz (X0.mono (by decide) (by decide)) hx hZs hZ hS0 hk0 hw hby hml howns hown hnm hret hlk e0 N0 O0 V_ra HBs hT hrq hwn (Or.inl rfl) hT1 (fun q => absurd rfl q)
    · refine own_spV (q := 136) (S' := []) (fun _ k_ => XS.ifNo X0.here hx rfl (hb hby at_133) rfl ((if0 _ _).trans (feq hc2).1) k_) ?_
      refine own_spV (q := 137) (S' := [(.int (1 : Int32))]) (fun _ k_ => XS.iconst X0.here hx rfl (hb hby at_136) k_) ?_
      refine own_spV (q := 141) (S' := [(.int (1 : Int32))]) (fun _ k_ => XS.goto X0.here hx rfl (pc0 := 137) (pc' := 141) rfl (hb hby at_137) (by decide) (by decide) k_) ?_
      refine own_stV (T' := T0) (g' := (mkF m 143 #[iv i0, iv i1, iv i2, iv i3, iv i4, iv i5, rv ka, rv ra, rv kd, iv tv, iv rq, iv wh, iv (1 : Int32), .unset, .unset, .unset, .unset, .unset, .unset, .unset, .unset, .unset, .unset, .unset, .unset, .unset, .unset] [])) (fun _ k_ => XS.istore X0.here hx rfl (hb hby at_141) rfl (l' := #[iv i0, iv i1, iv i2, iv i3, iv i4, iv i5, rv ka, rv ra, rv kd, iv tv, iv rq, iv wh, iv (1 : Int32), .unset, .unset, .unset, .unset, .unset, .unset, .unset, .unset, .unset, .unset, .unset, .unset, .unset, .unset]) rfl k_) ?_
      exact seg_s143 h0 hB n0 i0 i1 i2 i3 i4 i5 ka ra kra kd tv rq wh (1 : Int32) w_TEXT w_OPTION w_METHOD w_TARGET w_BODY w_TIME w_NONCE dA clD kO mir em el oe cz (X0.mono (by decide) (by decide)) hx hZs hZ hS0 hk0 hw hby hml howns hown hnm hret hlk e0 N0 O0 V_ra HBs hT hrq hwn (Or.inr rfl) hT1 (fun _ => hT hc1)
theorem seg_s105 (h0 : Heap) (hB : Heap) (n0 : Nat) (i0 : Int32) (i1 : Int32) (i2 : Int32) (i3 : Int32) (i4 : Int32) (i5 : Int32) (ka : Addr) (ra : Addr) (kra : ClassId) (kd : Addr) (tv : Int32) (rq : Int32) (w_TEXT : Addr) (w_OPTION : Addr) (w_METHOD : Addr) (w_TARGET : Addr) (w_BODY : Addr) (w_TIME : Addr) (w_NONCE : Addr) (dA : Addr) (clD : Cell) (kO : ClassId) (mir : Addr) (em : Addr) (el : Addr) (oe : Addr) (cz : Int32)
    (X0 : Stand p l e room_1 (s.setVm vm0) m args below meth c T0 locs 2 9) (hx : p.tables.exec = Jvm.exec) (hZs : Z.Warmed39 s.vm) (hZ : Z.Warmed39 (s.setVm vm0).vm) (hS0 : s.Since vm0 k0) (hk0 : k0 ≤ hB.size) (hw : own_HW a0 Z) (hby : c.code = code) (hml : c.maxLocals = 27) (howns : s.vm.findClass ks3 = some m.cls) (hown : (s.setVm vm0).vm.findClass ks3 = some m.cls) (hnm : meth.name = "law") (hret : meth.sig.returnType = some .boolean) (hlk : meth.locks = false) (e0 : T0.heap = hB) (N0 : Fr n0 locs) (O0 : Old Z n0 hB) (V_ra : Arv Z hB ra kra (.object ks1) (6 : Int32) [(.ref w_OPTION), (.ref w_METHOD), (.ref w_TARGET), (.ref w_BODY), (.ref w_TIME), (.ref w_NONCE)] .null) (HBs : own_Bs Z w_TEXT w_OPTION w_METHOD w_TARGET w_BODY w_TIME w_NONCE dA clD kO mir em el oe cz) (hT : ¬ tv = (0 : Int32) → kd = w_TEXT) (hrq : own_B rq) :
    own_V p e below s room_1.cells room_1.slots (fun v h L _ => own_L n0 v h L) T0 (mkF m 105 #[iv i0, iv i1, iv i2, iv i3, iv i4, iv i5, rv ka, rv ra, rv kd, iv tv, iv rq, .unset, .unset, .unset, .unset, .unset, .unset, .unset, .unset, .unset, .unset, .unset, .unset, .unset, .unset, .unset, .unset] []) := by
  obtain ⟨S_TEXT, S_OPTION, X_OPTION, S_METHOD, X_METHOD, S_TARGET, X_TARGET, S_BODY, X_BODY, S_TIME, X_TIME, S_NONCE, X_NONCE, SDe, AD, LD, OV, FC, MIR, SEm, X_em, S_el, IL_el, S_oe, X_oe, F_oe, SC, hcz⟩ := id HBs
  refine own_stV (T' := T0) (g' := (mkF m 107 #[iv i0, iv i1, iv i2, iv i3, iv i4, iv i5, rv ka, rv ra, rv kd, iv tv, iv rq, .unset, .unset, .unset, .unset, .unset, .unset, .unset, .unset, .unset, .unset, .unset, .unset, .unset, .unset, .unset, .unset] [(.int tv)])) (fun _ k_ => XS.iload X0.here hx rfl (hb hby at_105) rfl  k_) ?_
  by_cases hc1 : tv = (0 : Int32)
  · refine own_spV (q := 121) (S' := []) (fun _ k_ => XS.ifYes X0.here hx rfl (pc0 := 107) (pc' := 121) rfl (hb hby at_107) rfl ((if0 _ _).trans (teq hc1).1) (by decide) (by decide) k_) ?_
    refine own_spV (q := 122) (S' := [(.int (0 : Int32))]) (fun _ k_ => XS.iconst X0.here hx rfl (hb hby at_121) k_) ?_
    refine own_stV (T' := T0) (g' := (mkF m 124 #[iv i0, iv i1, iv i2, iv i3, iv i4, iv i5, rv ka, rv ra, rv kd, iv tv, iv rq, iv (0 : Int32), .unset, .unset, .unset, .unset, .unset, .unset, .unset, .unset, .unset, .unset, .unset, .unset, .unset, .unset, .unset] [])) (fun _ k_ => XS.istore X0.here hx rfl (hb hby at_122) rfl (l' := #[iv i0, iv i1, iv i2, iv i3, iv i4, iv i5, rv ka, rv ra, rv kd, iv tv, iv rq, iv (0 : Int32), .unset, .unset, .unset, .unset, .unset, .unset, .unset, .unset, .unset, .unset, .unset, .unset, .unset, .unset, .unset]) rfl k_) ?_
    exact seg_s124 h0 hB n0 i0 i1 i2 i3 i4 i5 ka ra kra kd tv rq (0 : Int32) w_TEXT w_OPTION w_METHOD w_TARGET w_BODY w_TIME w_NONCE dA clD kO mir em el oe cz (X0.mono (by decide) (by decide)) hx hZs hZ hS0 hk0 hw hby hml howns hown hnm hret hlk e0 N0 O0 V_ra HBs hT hrq (Or.inl rfl) (fun q => absurd rfl q)
  · refine own_spV (q := 110) (S' := []) (fun _ k_ => XS.ifNo X0.here hx rfl (hb hby at_107) rfl ((if0 _ _).trans (feq hc1).1) k_) ?_
    refine own_spV (q := 111) (S' := [(.int i3)]) (fun _ k_ => XS.iloadN X0.here hx rfl (hb hby at_110) rfl  k_) ?_
    refine own_spV (q := 113) (S' := [(.int (8 : Int32)), (.int i3)]) (fun _ k_ => XS.bipush X0.here hx rfl (hb hby at_111) k_) ?_
    refine own_spV (q := 114) (S' := [(.int (i3 &&& (8 : Int32)))]) (fun _ k_ => XS.iand X0.here hx rfl (hb hby at_113) rfl k_) ?_
    by_cases hc2 : (i3 &&& (8 : Int32)) = (0 : Int32)
    · refine own_spV (q := 121) (S' := []) (fun _ k_ => XS.ifYes X0.here hx rfl (pc0 := 114) (pc' := 121) rfl (hb hby at_114) rfl ((if0 _ _).trans (teq hc2).1) (by decide) (by decide) k_) ?_
      refine own_spV (q := 122) (S' := [(.int (0 : Int32))]) (fun _ k_ => XS.iconst X0.here hx rfl (hb hby at_121) k_) ?_
      refine own_stV (T' := T0) (g' := (mkF m 124 #[iv i0, iv i1, iv i2, iv i3, iv i4, iv i5, rv ka, rv ra, rv kd, iv tv, iv rq, iv (0 : Int32), .unset, .unset, .unset, .unset, .unset, .unset, .unset, .unset, .unset, .unset, .unset, .unset, .unset, .unset, .unset] [])) (fun _ k_ => XS.istore X0.here hx rfl (hb hby at_122) rfl (l' := #[iv i0, iv i1, iv i2, iv i3, iv i4, iv i5, rv ka, rv ra, rv kd, iv tv, iv rq, iv (0 : Int32), .unset, .unset, .unset, .unset, .unset, .unset, .unset, .unset, .unset, .unset, .unset, .unset, .unset, .unset, .unset]) rfl k_) ?_
      exact seg_s124 h0 hB n0 i0 i1 i2 i3 i4 i5 ka ra kra kd tv rq (0 : Int32) w_TEXT w_OPTION w_METHOD w_TARGET w_BODY w_TIME w_NONCE dA clD kO mir em el oe cz (X0.mono (by decide) (by decide)) hx hZs hZ hS0 hk0 hw hby hml howns hown hnm hret hlk e0 N0 O0 V_ra HBs hT hrq (Or.inl rfl) (fun q => absurd rfl q)
    · refine own_spV (q := 117) (S' := []) (fun _ k_ => XS.ifNo X0.here hx rfl (hb hby at_114) rfl ((if0 _ _).trans (feq hc2).1) k_) ?_
      refine own_spV (q := 118) (S' := [(.int (1 : Int32))]) (fun _ k_ => XS.iconst X0.here hx rfl (hb hby at_117) k_) ?_
      refine own_spV (q := 122) (S' := [(.int (1 : Int32))]) (fun _ k_ => XS.goto X0.here hx rfl (pc0 := 118) (pc' := 122) rfl (hb hby at_118) (by decide) (by decide) k_) ?_
      refine own_stV (T' := T0) (g' := (mkF m 124 #[iv i0, iv i1, iv i2, iv i3, iv i4, iv i5, rv ka, rv ra, rv kd, iv tv, iv rq, iv (1 : Int32), .unset, .unset, .unset, .unset, .unset, .unset, .unset, .unset, .unset, .unset, .unset, .unset, .unset, .unset, .unset] [])) (fun _ k_ => XS.istore X0.here hx rfl (hb hby at_122) rfl (l' := #[iv i0, iv i1, iv i2, iv i3, iv i4, iv i5, rv ka, rv ra, rv kd, iv tv, iv rq, iv (1 : Int32), .unset, .unset, .unset, .unset, .unset, .unset, .unset, .unset, .unset, .unset, .unset, .unset, .unset, .unset, .unset]) rfl k_) ?_
      exact seg_s124 h0 hB n0 i0 i1 i2 i3 i4 i5 ka ra kra kd tv rq (1 : Int32) w_TEXT w_OPTION w_METHOD w_TARGET w_BODY w_TIME w_NONCE dA clD kO mir em el oe cz (X0.mono (by decide) (by decide)) hx hZs hZ hS0 hk0 hw hby hml howns hown hnm hret hlk e0 N0 O0 V_ra HBs hT hrq (Or.inr rfl) (fun _ => hT hc1)
theorem seg_s92 (h0 : Heap) (hB : Heap) (n0 : Nat) (i0 : Int32) (i1 : Int32) (i2 : Int32) (i3 : Int32) (i4 : Int32) (i5 : Int32) (ka : Addr) (ra : Addr) (kra : ClassId) (kd : Addr) (tv : Int32) (w_TEXT : Addr) (w_OPTION : Addr) (w_METHOD : Addr) (w_TARGET : Addr) (w_BODY : Addr) (w_TIME : Addr) (w_NONCE : Addr) (dA : Addr) (clD : Cell) (kO : ClassId) (mir : Addr) (em : Addr) (el : Addr) (oe : Addr) (cz : Int32)
    (X0 : Stand p l e room_1 (s.setVm vm0) m args below meth c T0 locs 2 9) (hx : p.tables.exec = Jvm.exec) (hZs : Z.Warmed39 s.vm) (hZ : Z.Warmed39 (s.setVm vm0).vm) (hS0 : s.Since vm0 k0) (hk0 : k0 ≤ hB.size) (hw : own_HW a0 Z) (hby : c.code = code) (hml : c.maxLocals = 27) (howns : s.vm.findClass ks3 = some m.cls) (hown : (s.setVm vm0).vm.findClass ks3 = some m.cls) (hnm : meth.name = "law") (hret : meth.sig.returnType = some .boolean) (hlk : meth.locks = false) (e0 : T0.heap = hB) (N0 : Fr n0 locs) (O0 : Old Z n0 hB) (V_ra : Arv Z hB ra kra (.object ks1) (6 : Int32) [(.ref w_OPTION), (.ref w_METHOD), (.ref w_TARGET), (.ref w_BODY), (.ref w_TIME), (.ref w_NONCE)] .null) (HBs : own_Bs Z w_TEXT w_OPTION w_METHOD w_TARGET w_BODY w_TIME w_NONCE dA clD kO mir em el oe cz) (hT : ¬ tv = (0 : Int32) → kd = w_TEXT) :
    own_V p e below s room_1.cells room_1.slots (fun v h L _ => own_L n0 v h L) T0 (mkF m 92 #[iv i0, iv i1, iv i2, iv i3, iv i4, iv i5, rv ka, rv ra, rv kd, iv tv, .unset, .unset, .unset, .unset, .unset, .unset, .unset, .unset, .unset, .unset, .unset, .unset, .unset, .unset, .unset, .unset, .unset] []) := by
  obtain ⟨S_TEXT, S_OPTION, X_OPTION, S_METHOD, X_METHOD, S_TARGET, X_TARGET, S_BODY, X_BODY, S_TIME, X_TIME, S_NONCE, X_NONCE, SDe, AD, LD, OV, FC, MIR, SEm, X_em, S_el, IL_el, S_oe, X_oe, F_oe, SC, hcz⟩ := id HBs
  refine own_stV (T' := T0) (g' := (mkF m 93 #[iv i0, iv i1, iv i2, iv i3, iv i4, iv i5, rv ka, rv ra, rv kd, iv tv, .unset, .unset, .unset, .unset, .unset, .unset, .unset, .unset, .unset, .unset, .unset, .unset, .unset, .unset, .unset, .unset, .unset] [(.int i3)])) (fun _ k_ => XS.iloadN X0.here hx rfl (hb hby at_92) rfl  k_) ?_
  refine own_spV (q := 94) (S' := [(.int (4 : Int32)), (.int i3)]) (fun _ k_ => XS.iconst X0.here hx rfl (hb hby at_93) k_) ?_
  refine own_spV (q := 95) (S' := [(.int (i3 &&& (4 : Int32)))]) (fun _ k_ => XS.iand X0.here hx rfl (hb hby at_94) rfl k_) ?_
  by_cases hc1 : (i3 &&& (4 : Int32)) = (0 : Int32)
  · refine own_spV (q := 102) (S' := []) (fun _ k_ => XS.ifYes X0.here hx rfl (pc0 := 95) (pc' := 102) rfl (hb hby at_95) rfl ((if0 _ _).trans (teq hc1).1) (by decide) (by decide) k_) ?_
    refine own_spV (q := 103) (S' := [(.int (0 : Int32))]) (fun _ k_ => XS.iconst X0.here hx rfl (hb hby at_102) k_) ?_
    refine own_stV (T' := T0) (g' := (mkF m 105 #[iv i0, iv i1, iv i2, iv i3, iv i4, iv i5, rv ka, rv ra, rv kd, iv tv, iv (0 : Int32), .unset, .unset, .unset, .unset, .unset, .unset, .unset, .unset, .unset, .unset, .unset, .unset, .unset, .unset, .unset, .unset] [])) (fun _ k_ => XS.istore X0.here hx rfl (hb hby at_103) rfl (l' := #[iv i0, iv i1, iv i2, iv i3, iv i4, iv i5, rv ka, rv ra, rv kd, iv tv, iv (0 : Int32), .unset, .unset, .unset, .unset, .unset, .unset, .unset, .unset, .unset, .unset, .unset, .unset, .unset, .unset, .unset, .unset]) rfl k_) ?_
    exact seg_s105 h0 hB n0 i0 i1 i2 i3 i4 i5 ka ra kra kd tv (0 : Int32) w_TEXT w_OPTION w_METHOD w_TARGET w_BODY w_TIME w_NONCE dA clD kO mir em el oe cz (X0.mono (by decide) (by decide)) hx hZs hZ hS0 hk0 hw hby hml howns hown hnm hret hlk e0 N0 O0 V_ra HBs hT (Or.inl rfl)
  · refine own_spV (q := 98) (S' := []) (fun _ k_ => XS.ifNo X0.here hx rfl (hb hby at_95) rfl ((if0 _ _).trans (feq hc1).1) k_) ?_
    refine own_spV (q := 99) (S' := [(.int (1 : Int32))]) (fun _ k_ => XS.iconst X0.here hx rfl (hb hby at_98) k_) ?_
    refine own_spV (q := 103) (S' := [(.int (1 : Int32))]) (fun _ k_ => XS.goto X0.here hx rfl (pc0 := 99) (pc' := 103) rfl (hb hby at_99) (by decide) (by decide) k_) ?_
    refine own_stV (T' := T0) (g' := (mkF m 105 #[iv i0, iv i1, iv i2, iv i3, iv i4, iv i5, rv ka, rv ra, rv kd, iv tv, iv (1 : Int32), .unset, .unset, .unset, .unset, .unset, .unset, .unset, .unset, .unset, .unset, .unset, .unset, .unset, .unset, .unset, .unset] [])) (fun _ k_ => XS.istore X0.here hx rfl (hb hby at_103) rfl (l' := #[iv i0, iv i1, iv i2, iv i3, iv i4, iv i5, rv ka, rv ra, rv kd, iv tv, iv (1 : Int32), .unset, .unset, .unset, .unset, .unset, .unset, .unset, .unset, .unset, .unset, .unset, .unset, .unset, .unset, .unset, .unset]) rfl k_) ?_
    exact seg_s105 h0 hB n0 i0 i1 i2 i3 i4 i5 ka ra kra kd tv (1 : Int32) w_TEXT w_OPTION w_METHOD w_TARGET w_BODY w_TIME w_NONCE dA clD kO mir em el oe cz (X0.mono (by decide) (by decide)) hx hZs hZ hS0 hk0 hw hby hml howns hown hnm hret hlk e0 N0 O0 V_ra HBs hT (Or.inr rfl)
theorem seg_s77 (h0 : Heap) (hB : Heap) (n0 : Nat) (i0 : Int32) (i1 : Int32) (i2 : Int32) (i3 : Int32) (i4 : Int32) (i5 : Int32) (ka : Addr) (ra : Addr) (kra : ClassId) (kd : Addr) (w_TEXT : Addr) (w_OPTION : Addr) (w_METHOD : Addr) (w_TARGET : Addr) (w_BODY : Addr) (w_TIME : Addr) (w_NONCE : Addr) (dA : Addr) (clD : Cell) (kO : ClassId) (mir : Addr) (em : Addr) (el : Addr) (oe : Addr) (cz : Int32)
    (X0 : Stand p l e room_1 (s.setVm vm0) m args below meth c T0 locs 2 9) (hx : p.tables.exec = Jvm.exec) (hZs : Z.Warmed39 s.vm) (hZ : Z.Warmed39 (s.setVm vm0).vm) (hS0 : s.Since vm0 k0) (hk0 : k0 ≤ hB.size) (hw : own_HW a0 Z) (hby : c.code = code) (hml : c.maxLocals = 27) (howns : s.vm.findClass ks3 = some m.cls) (hown : (s.setVm vm0).vm.findClass ks3 = some m.cls) (hnm : meth.name = "law") (hret : meth.sig.returnType = some .boolean) (hlk : meth.locks = false) (e0 : T0.heap = hB) (N0 : Fr n0 locs) (O0 : Old Z n0 hB) (V_ra : Arv Z hB ra kra (.object ks1) (6 : Int32) [(.ref w_OPTION), (.ref w_METHOD), (.ref w_TARGET), (.ref w_BODY), (.ref w_TIME), (.ref w_NONCE)] .null) (HBs : own_Bs Z w_TEXT w_OPTION w_METHOD w_TARGET w_BODY w_TIME w_NONCE dA clD kO mir em el oe cz) (X_kd : Exa Z Z.heap kd ks9) :
    own_V p e below s room_1.cells room_1.slots (fun v h L _ => own_L n0 v h L) T0 (mkF m 77 #[iv i0, iv i1, iv i2, iv i3, iv i4, iv i5, rv ka, rv ra, rv kd, .unset, .unset, .unset, .unset, .unset, .unset, .unset, .unset, .unset, .unset, .unset, .unset, .unset, .unset, .unset, .unset, .unset, .unset] []) := by
  obtain ⟨S_TEXT, S_OPTION, X_OPTION, S_METHOD, X_METHOD, S_TARGET, X_TARGET, S_BODY, X_BODY, S_TIME, X_TIME, S_NONCE, X_NONCE, SDe, AD, LD, OV, FC, MIR, SEm, X_em, S_el, IL_el, S_oe, X_oe, F_oe, SC, hcz⟩ := id HBs
  refine own_stV (T' := T0) (g' := (mkF m 79 #[iv i0, iv i1, iv i2, iv i3, iv i4, iv i5, rv ka, rv ra, rv kd, .unset, .unset, .unset, .unset, .unset, .unset, .unset, .unset, .unset, .unset, .unset, .unset, .unset, .unset, .unset, .unset, .unset, .unset] [(.ref kd)])) (fun _ k_ => XS.aload X0.here hx rfl (hb hby at_77) rfl rfl  k_) ?_
  refine own_kgs own_ckV X0 hx hZ hown (host := "") (Or.inl (wd hw 2 rfl)) Via.refl e0 (S_TEXT.ext O0.2) (hb hby at_79) (q := 82) rfl fun T1 X1 e1 => ?_
  by_cases hc2 : kd = w_TEXT
  · refine own_spV (q := 85) (S' := []) (fun _ k_ => Jvm.RoadKit.acmp (g := (mkF m 82 #[iv i0, iv i1, iv i2, iv i3, iv i4, iv i5, rv ka, rv ra, rv kd, .unset, .unset, .unset, .unset, .unset, .unset, .unset, .unset, .unset, .unset, .unset, .unset, .unset, .unset, .unset, .unset, .unset, .unset] [(.ref w_TEXT), (.ref kd)])) X1 hx rfl rfl rfl (pc0 := 82) (pc' := 85) (same := true) rfl (hb hby at_82) rfl (decide_eq_true (congrArg Value.ref hc2)) (by decide) (by decide) k_) ?_
    refine own_spV (q := 86) (S' := [(.int (1 : Int32))]) (fun _ k_ => XS.iconst X1.here hx rfl (hb hby at_85) k_) ?_
    refine own_spV (q := 90) (S' := [(.int (1 : Int32))]) (fun _ k_ => XS.goto X1.here hx rfl (pc0 := 86) (pc' := 90) rfl (hb hby at_86) (by decide) (by decide) k_) ?_
    refine own_stV (T' := T1) (g' := (mkF m 92 #[iv i0, iv i1, iv i2, iv i3, iv i4, iv i5, rv ka, rv ra, rv kd, iv (1 : Int32), .unset, .unset, .unset, .unset, .unset, .unset, .unset, .unset, .unset, .unset, .unset, .unset, .unset, .unset, .unset, .unset, .unset] [])) (fun _ k_ => XS.istore X1.here hx rfl (hb hby at_90) rfl (l' := #[iv i0, iv i1, iv i2, iv i3, iv i4, iv i5, rv ka, rv ra, rv kd, iv (1 : Int32), .unset, .unset, .unset, .unset, .unset, .unset, .unset, .unset, .unset, .unset, .unset, .unset, .unset, .unset, .unset, .unset, .unset]) rfl k_) ?_
    exact seg_s92 h0 hB n0 i0 i1 i2 i3 i4 i5 ka ra kra kd (1 : Int32) w_TEXT w_OPTION w_METHOD w_TARGET w_BODY w_TIME w_NONCE dA clD kO mir em el oe cz (X1.mono (by decide) (by decide)) hx hZs hZ hS0 hk0 hw hby hml howns hown hnm hret hlk e1 N0 O0 V_ra HBs (fun _ => hc2)
  · refine own_spV (q := 89) (S' := []) (fun _ k_ => Jvm.RoadKit.acmp (g := (mkF m 82 #[iv i0, iv i1, iv i2, iv i3, iv i4, iv i5, rv ka, rv ra, rv kd, .unset, .unset, .unset, .unset, .unset, .unset, .unset, .unset, .unset, .unset, .unset, .unset, .unset, .unset, .unset, .unset, .unset, .unset] [(.ref w_TEXT), (.ref kd)])) X1 hx rfl rfl rfl (pc0 := 82) (pc' := 89) (same := false) rfl (hb hby at_82) rfl (decide_eq_false fun q => hc2 (Value.ref.inj q)) (by decide) (by decide) k_) ?_
    refine own_spV (q := 90) (S' := [(.int (0 : Int32))]) (fun _ k_ => XS.iconst X1.here hx rfl (hb hby at_89) k_) ?_
    refine own_stV (T' := T1) (g' := (mkF m 92 #[iv i0, iv i1, iv i2, iv i3, iv i4, iv i5, rv ka, rv ra, rv kd, iv (0 : Int32), .unset, .unset, .unset, .unset, .unset, .unset, .unset, .unset, .unset, .unset, .unset, .unset, .unset, .unset, .unset, .unset, .unset] [])) (fun _ k_ => XS.istore X1.here hx rfl (hb hby at_90) rfl (l' := #[iv i0, iv i1, iv i2, iv i3, iv i4, iv i5, rv ka, rv ra, rv kd, iv (0 : Int32), .unset, .unset, .unset, .unset, .unset, .unset, .unset, .unset, .unset, .unset, .unset, .unset, .unset, .unset, .unset, .unset, .unset]) rfl k_) ?_
    exact seg_s92 h0 hB n0 i0 i1 i2 i3 i4 i5 ka ra kra kd (0 : Int32) w_TEXT w_OPTION w_METHOD w_TARGET w_BODY w_TIME w_NONCE dA clD kO mir em el oe cz (X1.mono (by decide) (by decide)) hx hZs hZ hS0 hk0 hw hby hml howns hown hnm hret hlk e1 N0 O0 V_ra HBs (fun q => absurd rfl q)
theorem pn_17 : plainName "com/example/countersign/countersign/ParameterAsPinLaw" = true := by first | (simp [plainName, overriddenIn]; done) | decide +kernel
theorem ef_0 (m : MethodId) (x0 : Int32) (x1 : Int32) (x2 : Int32) (x3 : Int32) (x4 : Int32) (x5 : Int32) : entryFrame m #[(.int x0), (.int x1), (.int x2), (.int x3), (.int x4), (.int x5)] maxLocals = mkF m 0 #[iv x0, iv x1, iv x2, iv x3, iv x4, iv x5, .unset, .unset, .unset, .unset, .unset, .unset, .unset, .unset, .unset, .unset, .unset, .unset, .unset, .unset, .unset, .unset, .unset, .unset, .unset, .unset, .unset] [] := by simp [entryFrame, mkF, argsToLocals, Value.category, maxLocals]
theorem rm_0 (l : Launch) (Z : State) (a0 : Array Value) (hw : own_HW a0 Z) (ws : List Jvm.Cond) (i0 : Int32) (i1 : Int32) (i2 : Int32) (i3 : Int32) (i4 : Int32) (i5 : Int32) (w_SECRET : Addr) (w_FILE : Addr) (w_TEXT : Addr) (w_OPTION : Addr) (w_METHOD : Addr) (w_TARGET : Addr) (w_BODY : Addr) (w_TIME : Addr) (w_NONCE : Addr) (dA : Addr) (clD : Cell) (kO : ClassId) (mir : Addr) (em : Addr) (el : Addr) (oe : Addr) (cz : Int32) (h0 : Heap) (n0 : Nat) (O0 : Old Z n0 h0) (HBs : own_Bs Z w_TEXT w_OPTION w_METHOD w_TARGET w_BODY w_TIME w_NONCE dA clD kO mir em el oe cz) (X_TEXT : Exa Z Z.heap w_TEXT ks9) (S_SECRET : Sta Z Z.heap ks9 "SECRET" ks5 (.ref w_SECRET)) (X_SECRET : Exa Z Z.heap w_SECRET ks9) (S_FILE : Sta Z Z.heap ks9 "FILE" ks5 (.ref w_FILE)) (X_FILE : Exa Z Z.heap w_FILE ks9) :
    own_MV l x (Jvm.Cond.code x code maxLocals ret :: ws) room_1 #[(.int i0), (.int i1), (.int i2), (.int i3), (.int i4), (.int i5)] Z h0 (fun _ => True) (fun v h L _ => own_L n0 v h L) := by
  refine own_metV (own := ks3) (nme := "law") rfl rfl (plainFor_of_name pn_17) ?_
  intro p e s m below meth c s₁ hx hby hml hown hnm X0 e0 hret hlk hZ hS0 wm0
  have hZs := hZ
  have howns := hown
  have N0 := Fr.nil n0
  rw [ef_0 m i0 i1 i2 i3 i4 i5]
  obtain ⟨S_TEXT, S_OPTION, X_OPTION, S_METHOD, X_METHOD, S_TARGET, X_TARGET, S_BODY, X_BODY, S_TIME, X_TIME, S_NONCE, X_NONCE, SDe, AD, LD, OV, FC, MIR, SEm, X_em, S_el, IL_el, S_oe, X_oe, F_oe, SC, hcz⟩ := id HBs
  refine own_stV (T' := s₁) (g' := (mkF m 1 #[iv i0, iv i1, iv i2, iv i3, iv i4, iv i5, .unset, .unset, .unset, .unset, .unset, .unset, .unset, .unset, .unset, .unset, .unset, .unset, .unset, .unset, .unset, .unset, .unset, .unset, .unset, .unset, .unset] [(.int (3 : Int32))])) (fun _ k_ => XS.iconst X0.here hx rfl (hb hby at_0) k_) ?_
  obtain ⟨T1, h1, k1, X1, e1, E1, A1, O1, st1⟩ := newR X0 hx hZ hown (wd hw 0 rfl) (wd hw 1 rfl) e0 (g := (mkF m 1 #[iv i0, iv i1, iv i2, iv i3, iv i4, iv i5, .unset, .unset, .unset, .unset, .unset, .unset, .unset, .unset, .unset, .unset, .unset, .unset, .unset, .unset, .unset, .unset, .unset, .unset, .unset, .unset, .unset] [(.int (3 : Int32))])) rfl (hb hby at_1) rfl (by decide) (cap := 3) (by decide) (by decide) (by decide) (by decide)
  obtain ⟨b1, g1⟩ : ∃ z, z = h0.size := ⟨_, rfl⟩
  rw [← g1] at A1 st1
  have fr1 : n0 ≤ b1 := Nat.le_trans (own_z O0) (Nat.le_of_eq g1.symm)
  have V1 : Arv Z h1 b1 k1 (.object ks9) (3 : Int32) [.null, .null, .null] .null := (Arv.new A1 (by decide)).pad (pad_rep [] .null 3)
  refine own_spV (q := 4) (S' := [(.ref b1)]) st1 ?_
  clear st1
  refine own_spV (q := 5) (S' := [(.ref b1), (.ref b1)]) (fun _ k_ => XS.dup X1.here hx rfl (hb hby at_4) rfl rfl k_) ?_
  refine own_spV (q := 6) (S' := [(.int (0 : Int32)), (.ref b1), (.ref b1)]) (fun _ k_ => XS.iconst X1.here hx rfl (hb hby at_5) k_) ?_
  have f2 := O0.ext E1
  refine own_kgs own_ckV X1 hx hZ hown (host := "") (Or.inl (wd hw 2 rfl)) Via.refl e1 (S_TEXT.ext f2.2) (hb hby at_6) (q := 9) rfl fun T3 X3 e3 => ?_
  obtain ⟨cl4, Ar4, q4, S4, N4, H4, G4⟩ := id V1
  have hin4 : ¬ ((0 : Int32) < 0 ∨ cl4.slots.size ≤ ((0 : Int32)).toNatClampNeg) := inb_of S4 ⟨by decide, by decide⟩
  obtain ⟨T5, h5, X5, e5, W5, st5⟩ := stR X3 hx hZ e3 Ar4 (j := (0 : Int32)) hin4 rfl (Sto.of Ar4 (q4 ▸ O1) (Ins.self (X_TEXT.ext f2.2))) (g := (mkF m 9 #[iv i0, iv i1, iv i2, iv i3, iv i4, iv i5, .unset, .unset, .unset, .unset, .unset, .unset, .unset, .unset, .unset, .unset, .unset, .unset, .unset, .unset, .unset, .unset, .unset, .unset, .unset, .unset, .unset] [(.ref w_TEXT), (.int (0 : Int32)), (.ref b1), (.ref b1)])) rfl rfl (hb hby at_9)
  have V5 : Arv Z h5 b1 k1 (.object ks9) (3 : Int32) [(.ref w_TEXT), .null, .null] .null := Arv.set Ar4 q4 S4 N4 H4 G4 rfl W5 0 rfl (Nat.le_of_ble_eq_true rfl)
  have Nx5 := Fr.snoc X5 N0 fr1
  refine own_spV (q := 10) (S' := [(.ref b1)]) st5 ?_
  clear hin4 G4 H4 N4 S4 q4 Ar4 cl4 st5
  refine own_spV (q := 11) (S' := [(.ref b1), (.ref b1)]) (fun _ k_ => XS.dup X5.here hx rfl (hb hby at_10) rfl rfl k_) ?_
  refine own_spV (q := 12) (S' := [(.int (1 : Int32)), (.ref b1), (.ref b1)]) (fun _ k_ => XS.iconst X5.here hx rfl (hb hby at_11) k_) ?_
  have f6 := f2.wr W5 fr1
  refine own_kgs own_ckV X5 hx hZ hown (host := "") (Or.inl (wd hw 6 rfl)) Via.refl e5 (S_SECRET.ext f6.2) (hb hby at_12) (q := 15) rfl fun T7 X7 e7 => ?_
  obtain ⟨cl8, Ar8, q8, S8, N8, H8, G8⟩ := id V5
  have hin8 : ¬ ((1 : Int32) < 0 ∨ cl8.slots.size ≤ ((1 : Int32)).toNatClampNeg) := inb_of S8 ⟨by decide, by decide⟩
  obtain ⟨T9, h9, X9, e9, W9, st9⟩ := stR X7 hx hZ e7 Ar8 (j := (1 : Int32)) hin8 rfl (Sto.of Ar8 (q8 ▸ O1) (Ins.self (X_SECRET.ext f6.2))) (g := (mkF m 15 #[iv i0, iv i1, iv i2, iv i3, iv i4, iv i5, .unset, .unset, .unset, .unset, .unset, .unset, .unset, .unset, .unset, .unset, .unset, .unset, .unset, .unset, .unset, .unset, .unset, .unset, .unset, .unset, .unset] [(.ref w_SECRET), (.int (1 : Int32)), (.ref b1), (.ref b1)])) rfl rfl (hb hby at_15)
  have V9 : Arv Z h9 b1 k1 (.object ks9) (3 : Int32) [(.ref w_TEXT), (.ref w_SECRET), .null] .null := Arv.set Ar8 q8 S8 N8 H8 G8 rfl W9 1 rfl (Nat.le_of_ble_eq_true rfl)
  have Nx9 := Fr.snoc X9 Nx5 fr1
  refine own_spV (q := 16) (S' := [(.ref b1)]) st9 ?_
  clear hin8 G8 H8 N8 S8 q8 Ar8 cl8 st9
  refine own_spV (q := 17) (S' := [(.ref b1), (.ref b1)]) (fun _ k_ => XS.dup X9.here hx rfl (hb hby at_16) rfl rfl k_) ?_
  refine own_spV (q := 18) (S' := [(.int (2 : Int32)), (.ref b1), (.ref b1)]) (fun _ k_ => XS.iconst X9.here hx rfl (hb hby at_17) k_) ?_
  have f10 := f6.wr W9 fr1
  refine own_kgs own_ckV X9 hx hZ hown (host := "") (Or.inl (wd hw 8 rfl)) Via.refl e9 (S_FILE.ext f10.2) (hb hby at_18) (q := 21) rfl fun T11 X11 e11 => ?_
  obtain ⟨cl12, Ar12, q12, S12, N12, H12, G12⟩ := id V9
  have hin12 : ¬ ((2 : Int32) < 0 ∨ cl12.slots.size ≤ ((2 : Int32)).toNatClampNeg) := inb_of S12 ⟨by decide, by decide⟩
  obtain ⟨T13, h13, X13, e13, W13, st13⟩ := stR X11 hx hZ e11 Ar12 (j := (2 : Int32)) hin12 rfl (Sto.of Ar12 (q12 ▸ O1) (Ins.self (X_FILE.ext f10.2))) (g := (mkF m 21 #[iv i0, iv i1, iv i2, iv i3, iv i4, iv i5, .unset, .unset, .unset, .unset, .unset, .unset, .unset, .unset, .unset, .unset, .unset, .unset, .unset, .unset, .unset, .unset, .unset, .unset, .unset, .unset, .unset] [(.ref w_FILE), (.int (2 : Int32)), (.ref b1), (.ref b1)])) rfl rfl (hb hby at_21)
  have V13 : Arv Z h13 b1 k1 (.object ks9) (3 : Int32) [(.ref w_TEXT), (.ref w_SECRET), (.ref w_FILE)] .null := Arv.set Ar12 q12 S12 N12 H12 G12 rfl W13 2 rfl (Nat.le_of_ble_eq_true rfl)
  have Nx13 := Fr.snoc X13 Nx9 fr1
  refine own_spV (q := 22) (S' := [(.ref b1)]) st13 ?_
  clear hin12 G12 H12 N12 S12 q12 Ar12 cl12 st13
  refine own_stV (T' := T13) (g' := (mkF m 24 #[iv i0, iv i1, iv i2, iv i3, iv i4, iv i5, rv b1, .unset, .unset, .unset, .unset, .unset, .unset, .unset, .unset, .unset, .unset, .unset, .unset, .unset, .unset, .unset, .unset, .unset, .unset, .unset, .unset] [])) (fun _ k_ => XS.astore X13.here hx rfl (hb hby at_22) rfl rfl (l' := #[iv i0, iv i1, iv i2, iv i3, iv i4, iv i5, rv b1, .unset, .unset, .unset, .unset, .unset, .unset, .unset, .unset, .unset, .unset, .unset, .unset, .unset, .unset, .unset, .unset, .unset, .unset, .unset, .unset]) rfl k_) ?_
  refine own_spV (q := 26) (S' := [(.int (6 : Int32))]) (fun _ k_ => XS.bipush X13.here hx rfl (hb hby at_24) k_) ?_
  have f14 := f10.wr W13 fr1
  obtain ⟨T15, h15, k15, X15, e15, E15, A15, O15, st15⟩ := newR X13 hx hZ hown (wd hw 10 rfl) (wd hw 11 rfl) e13 (g := (mkF m 26 #[iv i0, iv i1, iv i2, iv i3, iv i4, iv i5, rv b1, .unset, .unset, .unset, .unset, .unset, .unset, .unset, .unset, .unset, .unset, .unset, .unset, .unset, .unset, .unset, .unset, .unset, .unset, .unset, .unset] [(.int (6 : Int32))])) rfl (hb hby at_26) rfl (by decide) (cap := 6) (by decide) (by decide) (by decide) (by decide)
  obtain ⟨b15, g15⟩ : ∃ z, z = h13.size := ⟨_, rfl⟩
  rw [← g15] at A15 st15
  have fr15 : n0 ≤ b15 := Nat.le_trans (own_z f14) (Nat.le_of_eq g15.symm)
  have V15 : Arv Z h15 b15 k15 (.object ks1) (6 : Int32) [.null, .null, .null, .null, .null, .null] .null := (Arv.new A15 (by decide)).pad (pad_rep [] .null 6)
  refine own_spV (q := 29) (S' := [(.ref b15)]) st15 ?_
  clear st15
  refine own_spV (q := 30) (S' := [(.ref b15), (.ref b15)]) (fun _ k_ => XS.dup X15.here hx rfl (hb hby at_29) rfl rfl k_) ?_
  refine own_spV (q := 31) (S' := [(.int (0 : Int32)), (.ref b15), (.ref b15)]) (fun _ k_ => XS.iconst X15.here hx rfl (hb hby at_30) k_) ?_
  have f16 := f14.ext E15
  refine own_kgs own_ckV X15 hx hZ hown (host := "") (Or.inl (wd hw 12 rfl)) Via.refl e15 (S_OPTION.ext f16.2) (hb hby at_31) (q := 34) rfl fun T17 X17 e17 => ?_
  obtain ⟨cl18, Ar18, q18, S18, N18, H18, G18⟩ := id V15
  have hin18 : ¬ ((0 : Int32) < 0 ∨ cl18.slots.size ≤ ((0 : Int32)).toNatClampNeg) := inb_of S18 ⟨by decide, by decide⟩
  obtain ⟨T19, h19, X19, e19, W19, st19⟩ := stR X17 hx hZ e17 Ar18 (j := (0 : Int32)) hin18 rfl (Sto.of Ar18 (q18 ▸ O15) (Ins.self (X_OPTION.ext f16.2))) (g := (mkF m 34 #[iv i0, iv i1, iv i2, iv i3, iv i4, iv i5, rv b1, .unset, .unset, .unset, .unset, .unset, .unset, .unset, .unset, .unset, .unset, .unset, .unset, .unset, .unset, .unset, .unset, .unset, .unset, .unset, .unset] [(.ref w_OPTION), (.int (0 : Int32)), (.ref b15), (.ref b15)])) rfl rfl (hb hby at_34)
  have V19 : Arv Z h19 b15 k15 (.object ks1) (6 : Int32) [(.ref w_OPTION), .null, .null, .null, .null, .null] .null := Arv.set Ar18 q18 S18 N18 H18 G18 rfl W19 0 rfl (Nat.le_of_ble_eq_true rfl)
  have Nx19 := Fr.snoc X19 Nx13 fr15
  refine own_spV (q := 35) (S' := [(.ref b15)]) st19 ?_
  clear hin18 G18 H18 N18 S18 q18 Ar18 cl18 st19
  refine own_spV (q := 36) (S' := [(.ref b15), (.ref b15)]) (fun _ k_ => XS.dup X19.here hx rfl (hb hby at_35) rfl rfl k_) ?_
  refine own_spV (q := 37) (S' := [(.int (1 : Int32)), (.ref b15), (.ref b15)]) (fun _ k_ => XS.iconst X19.here hx rfl (hb hby at_36) k_) ?_
  have f20 := f16.wr W19 fr15
  refine own_kgs own_ckV X19 hx hZ hown (host := "") (Or.inl (wd hw 16 rfl)) Via.refl e19 (S_METHOD.ext f20.2) (hb hby at_37) (q := 40) rfl fun T21 X21 e21 => ?_
  obtain ⟨cl22, Ar22, q22, S22, N22, H22, G22⟩ := id V19
  have hin22 : ¬ ((1 : Int32) < 0 ∨ cl22.slots.size ≤ ((1 : Int32)).toNatClampNeg) := inb_of S22 ⟨by decide, by decide⟩
  obtain ⟨T23, h23, X23, e23, W23, st23⟩ := stR X21 hx hZ e21 Ar22 (j := (1 : Int32)) hin22 rfl (Sto.of Ar22 (q22 ▸ O15) (Ins.self (X_METHOD.ext f20.2))) (g := (mkF m 40 #[iv i0, iv i1, iv i2, iv i3, iv i4, iv i5, rv b1, .unset, .unset, .unset, .unset, .unset, .unset, .unset, .unset, .unset, .unset, .unset, .unset, .unset, .unset, .unset, .unset, .unset, .unset, .unset, .unset] [(.ref w_METHOD), (.int (1 : Int32)), (.ref b15), (.ref b15)])) rfl rfl (hb hby at_40)
  have V23 : Arv Z h23 b15 k15 (.object ks1) (6 : Int32) [(.ref w_OPTION), (.ref w_METHOD), .null, .null, .null, .null] .null := Arv.set Ar22 q22 S22 N22 H22 G22 rfl W23 1 rfl (Nat.le_of_ble_eq_true rfl)
  have Nx23 := Fr.snoc X23 Nx19 fr15
  refine own_spV (q := 41) (S' := [(.ref b15)]) st23 ?_
  clear hin22 G22 H22 N22 S22 q22 Ar22 cl22 st23
  refine own_spV (q := 42) (S' := [(.ref b15), (.ref b15)]) (fun _ k_ => XS.dup X23.here hx rfl (hb hby at_41) rfl rfl k_) ?_
  refine own_spV (q := 43) (S' := [(.int (2 : Int32)), (.ref b15), (.ref b15)]) (fun _ k_ => XS.iconst X23.here hx rfl (hb hby at_42) k_) ?_
  have f24 := f20.wr W23 fr15
  refine own_kgs own_ckV X23 hx hZ hown (host := "") (Or.inl (wd hw 18 rfl)) Via.refl e23 (S_TARGET.ext f24.2) (hb hby at_43) (q := 46) rfl fun T25 X25 e25 => ?_
  obtain ⟨cl26, Ar26, q26, S26, N26, H26, G26⟩ := id V23
  have hin26 : ¬ ((2 : Int32) < 0 ∨ cl26.slots.size ≤ ((2 : Int32)).toNatClampNeg) := inb_of S26 ⟨by decide, by decide⟩
  obtain ⟨T27, h27, X27, e27, W27, st27⟩ := stR X25 hx hZ e25 Ar26 (j := (2 : Int32)) hin26 rfl (Sto.of Ar26 (q26 ▸ O15) (Ins.self (X_TARGET.ext f24.2))) (g := (mkF m 46 #[iv i0, iv i1, iv i2, iv i3, iv i4, iv i5, rv b1, .unset, .unset, .unset, .unset, .unset, .unset, .unset, .unset, .unset, .unset, .unset, .unset, .unset, .unset, .unset, .unset, .unset, .unset, .unset, .unset] [(.ref w_TARGET), (.int (2 : Int32)), (.ref b15), (.ref b15)])) rfl rfl (hb hby at_46)
  have V27 : Arv Z h27 b15 k15 (.object ks1) (6 : Int32) [(.ref w_OPTION), (.ref w_METHOD), (.ref w_TARGET), .null, .null, .null] .null := Arv.set Ar26 q26 S26 N26 H26 G26 rfl W27 2 rfl (Nat.le_of_ble_eq_true rfl)
  have Nx27 := Fr.snoc X27 Nx23 fr15
  refine own_spV (q := 47) (S' := [(.ref b15)]) st27 ?_
  clear hin26 G26 H26 N26 S26 q26 Ar26 cl26 st27
  refine own_spV (q := 48) (S' := [(.ref b15), (.ref b15)]) (fun _ k_ => XS.dup X27.here hx rfl (hb hby at_47) rfl rfl k_) ?_
  refine own_spV (q := 49) (S' := [(.int (3 : Int32)), (.ref b15), (.ref b15)]) (fun _ k_ => XS.iconst X27.here hx rfl (hb hby at_48) k_) ?_
  have f28 := f24.wr W27 fr15
  refine own_kgs own_ckV X27 hx hZ hown (host := "") (Or.inl (wd hw 20 rfl)) Via.refl e27 (S_BODY.ext f28.2) (hb hby at_49) (q := 52) rfl fun T29 X29 e29 => ?_
  obtain ⟨cl30, Ar30, q30, S30, N30, H30, G30⟩ := id V27
  have hin30 : ¬ ((3 : Int32) < 0 ∨ cl30.slots.size ≤ ((3 : Int32)).toNatClampNeg) := inb_of S30 ⟨by decide, by decide⟩
  obtain ⟨T31, h31, X31, e31, W31, st31⟩ := stR X29 hx hZ e29 Ar30 (j := (3 : Int32)) hin30 rfl (Sto.of Ar30 (q30 ▸ O15) (Ins.self (X_BODY.ext f28.2))) (g := (mkF m 52 #[iv i0, iv i1, iv i2, iv i3, iv i4, iv i5, rv b1, .unset, .unset, .unset, .unset, .unset, .unset, .unset, .unset, .unset, .unset, .unset, .unset, .unset, .unset, .unset, .unset, .unset, .unset, .unset, .unset] [(.ref w_BODY), (.int (3 : Int32)), (.ref b15), (.ref b15)])) rfl rfl (hb hby at_52)
  have V31 : Arv Z h31 b15 k15 (.object ks1) (6 : Int32) [(.ref w_OPTION), (.ref w_METHOD), (.ref w_TARGET), (.ref w_BODY), .null, .null] .null := Arv.set Ar30 q30 S30 N30 H30 G30 rfl W31 3 rfl (Nat.le_of_ble_eq_true rfl)
  have Nx31 := Fr.snoc X31 Nx27 fr15
  refine own_spV (q := 53) (S' := [(.ref b15)]) st31 ?_
  clear hin30 G30 H30 N30 S30 q30 Ar30 cl30 st31
  refine own_spV (q := 54) (S' := [(.ref b15), (.ref b15)]) (fun _ k_ => XS.dup X31.here hx rfl (hb hby at_53) rfl rfl k_) ?_
  refine own_spV (q := 55) (S' := [(.int (4 : Int32)), (.ref b15), (.ref b15)]) (fun _ k_ => XS.iconst X31.here hx rfl (hb hby at_54) k_) ?_
  have f32 := f28.wr W31 fr15
  refine own_kgs own_ckV X31 hx hZ hown (host := "") (Or.inl (wd hw 22 rfl)) Via.refl e31 (S_TIME.ext f32.2) (hb hby at_55) (q := 58) rfl fun T33 X33 e33 => ?_
  obtain ⟨cl34, Ar34, q34, S34, N34, H34, G34⟩ := id V31
  have hin34 : ¬ ((4 : Int32) < 0 ∨ cl34.slots.size ≤ ((4 : Int32)).toNatClampNeg) := inb_of S34 ⟨by decide, by decide⟩
  obtain ⟨T35, h35, X35, e35, W35, st35⟩ := stR X33 hx hZ e33 Ar34 (j := (4 : Int32)) hin34 rfl (Sto.of Ar34 (q34 ▸ O15) (Ins.self (X_TIME.ext f32.2))) (g := (mkF m 58 #[iv i0, iv i1, iv i2, iv i3, iv i4, iv i5, rv b1, .unset, .unset, .unset, .unset, .unset, .unset, .unset, .unset, .unset, .unset, .unset, .unset, .unset, .unset, .unset, .unset, .unset, .unset, .unset, .unset] [(.ref w_TIME), (.int (4 : Int32)), (.ref b15), (.ref b15)])) rfl rfl (hb hby at_58)
  have V35 : Arv Z h35 b15 k15 (.object ks1) (6 : Int32) [(.ref w_OPTION), (.ref w_METHOD), (.ref w_TARGET), (.ref w_BODY), (.ref w_TIME), .null] .null := Arv.set Ar34 q34 S34 N34 H34 G34 rfl W35 4 rfl (Nat.le_of_ble_eq_true rfl)
  have Nx35 := Fr.snoc X35 Nx31 fr15
  refine own_spV (q := 59) (S' := [(.ref b15)]) st35 ?_
  clear hin34 G34 H34 N34 S34 q34 Ar34 cl34 st35
  refine own_spV (q := 60) (S' := [(.ref b15), (.ref b15)]) (fun _ k_ => XS.dup X35.here hx rfl (hb hby at_59) rfl rfl k_) ?_
  refine own_spV (q := 61) (S' := [(.int (5 : Int32)), (.ref b15), (.ref b15)]) (fun _ k_ => XS.iconst X35.here hx rfl (hb hby at_60) k_) ?_
  have f36 := f32.wr W35 fr15
  refine own_kgs own_ckV X35 hx hZ hown (host := "") (Or.inl (wd hw 24 rfl)) Via.refl e35 (S_NONCE.ext f36.2) (hb hby at_61) (q := 64) rfl fun T37 X37 e37 => ?_
  obtain ⟨cl38, Ar38, q38, S38, N38, H38, G38⟩ := id V35
  have hin38 : ¬ ((5 : Int32) < 0 ∨ cl38.slots.size ≤ ((5 : Int32)).toNatClampNeg) := inb_of S38 ⟨by decide, by decide⟩
  obtain ⟨T39, h39, X39, e39, W39, st39⟩ := stR X37 hx hZ e37 Ar38 (j := (5 : Int32)) hin38 rfl (Sto.of Ar38 (q38 ▸ O15) (Ins.self (X_NONCE.ext f36.2))) (g := (mkF m 64 #[iv i0, iv i1, iv i2, iv i3, iv i4, iv i5, rv b1, .unset, .unset, .unset, .unset, .unset, .unset, .unset, .unset, .unset, .unset, .unset, .unset, .unset, .unset, .unset, .unset, .unset, .unset, .unset, .unset] [(.ref w_NONCE), (.int (5 : Int32)), (.ref b15), (.ref b15)])) rfl rfl (hb hby at_64)
  have V39 : Arv Z h39 b15 k15 (.object ks1) (6 : Int32) [(.ref w_OPTION), (.ref w_METHOD), (.ref w_TARGET), (.ref w_BODY), (.ref w_TIME), (.ref w_NONCE)] .null := Arv.set Ar38 q38 S38 N38 H38 G38 rfl W39 5 rfl (Nat.le_of_ble_eq_true rfl)
  have Nx39 := Fr.snoc X39 Nx35 fr15
  refine own_spV (q := 65) (S' := [(.ref b15)]) st39 ?_
  clear hin38 G38 H38 N38 S38 q38 Ar38 cl38 st39
  refine own_stV (T' := T39) (g' := (mkF m 67 #[iv i0, iv i1, iv i2, iv i3, iv i4, iv i5, rv b1, rv b15, .unset, .unset, .unset, .unset, .unset, .unset, .unset, .unset, .unset, .unset, .unset, .unset, .unset, .unset, .unset, .unset, .unset, .unset, .unset] [])) (fun _ k_ => XS.astore X39.here hx rfl (hb hby at_65) rfl rfl (l' := #[iv i0, iv i1, iv i2, iv i3, iv i4, iv i5, rv b1, rv b15, .unset, .unset, .unset, .unset, .unset, .unset, .unset, .unset, .unset, .unset, .unset, .unset, .unset, .unset, .unset, .unset, .unset, .unset, .unset]) rfl k_) ?_
  refine own_spV (q := 69) (S' := [(.ref b1)]) (fun _ k_ => XS.aload X39.here hx rfl (hb hby at_67) rfl rfl  k_) ?_
  refine own_spV (q := 70) (S' := [(.int i3), (.ref b1)]) (fun _ k_ => XS.iloadN X39.here hx rfl (hb hby at_69) rfl  k_) ?_
  refine own_spV (q := 71) (S' := [(.int (3 : Int32)), (.int i3), (.ref b1)]) (fun _ k_ => XS.iconst X39.here hx rfl (hb hby at_70) k_) ?_
  refine own_spV (q := 72) (S' := [(.int (i3 &&& (3 : Int32))), (.ref b1)]) (fun _ k_ => XS.iand X39.here hx rfl (hb hby at_71) rfl k_) ?_
  refine own_spV (q := 73) (S' := [(.int (3 : Int32)), (.int (i3 &&& (3 : Int32))), (.ref b1)]) (fun _ k_ => XS.iconst X39.here hx rfl (hb hby at_72) k_) ?_
  refine own_spV (q := 74) (S' := [(.int ((i3 &&& (3 : Int32)) % (3 : Int32))), (.ref b1)]) (fun _ k_ => iremM X39 hx rfl (hb hby at_73) rfl (by decide) k_) ?_
  rcases own_mod3 i3 with hq | hq | hq
  · rw [hq]
    have f40 := V13.ext E15
    have ne41 : b1 ≠ b15 := Nat.ne_of_lt (Nat.lt_of_lt_of_le (Nat.lt_of_lt_of_le (Nat.lt_of_lt_of_le (Nat.lt_of_lt_of_le V1.lt (Nat.le_of_eq (Wr.size W5).symm)) (Nat.le_of_eq (Wr.size W9).symm)) (Nat.le_of_eq (Wr.size W13).symm)) (Nat.le_of_eq g15.symm))
    have f42 := f40.other W19 ne41
    have f43 := f42.other W23 ne41
    have f44 := f43.other W27 ne41
    have f45 := f44.other W31 ne41
    have f46 := f45.other W35 ne41
    have f47 := f46.other W39 ne41
    obtain ⟨cl48, Ar48, q48, S48, N48, H48, G48⟩ := id f47
    have hin48 : ¬ ((0 : Int32) < 0 ∨ cl48.slots.size ≤ ((0 : Int32)).toNatClampNeg) := inb_of S48 ⟨by decide, by decide⟩
    refine own_spV (q := 75) (S' := [(.ref w_TEXT)]) (X39.aaload hx (j := (0 : Int32)) (v := (.ref w_TEXT)) (by rw [e39]; exact Ar48.1) (State.isArrayOf_alike hZ.alike Ar48.2.1) rfl Ar48.2.2 hin48 (H48.at hin48 rfl) (g := (mkF m 74 #[iv i0, iv i1, iv i2, iv i3, iv i4, iv i5, rv b1, rv b15, .unset, .unset, .unset, .unset, .unset, .unset, .unset, .unset, .unset, .unset, .unset, .unset, .unset, .unset, .unset, .unset, .unset, .unset, .unset] [(.int (0 : Int32)), (.ref b1)])) rfl rfl (hb hby at_74)) ?_
    clear hin48 G48 H48 N48 S48 q48 Ar48 cl48
    refine own_stV (T' := T39) (g' := (mkF m 77 #[iv i0, iv i1, iv i2, iv i3, iv i4, iv i5, rv b1, rv b15, rv w_TEXT, .unset, .unset, .unset, .unset, .unset, .unset, .unset, .unset, .unset, .unset, .unset, .unset, .unset, .unset, .unset, .unset, .unset, .unset] [])) (fun _ k_ => XS.astore X39.here hx rfl (hb hby at_75) rfl rfl (l' := #[iv i0, iv i1, iv i2, iv i3, iv i4, iv i5, rv b1, rv b15, rv w_TEXT, .unset, .unset, .unset, .unset, .unset, .unset, .unset, .unset, .unset, .unset, .unset, .unset, .unset, .unset, .unset, .unset, .unset, .unset]) rfl k_) ?_
    have f49 := f36.wr W39 fr15
    exact seg_s77 h0 h39 n0 i0 i1 i2 i3 i4 i5 b1 b15 k15 w_TEXT w_TEXT w_OPTION w_METHOD w_TARGET w_BODY w_TIME w_NONCE dA clD kO mir em el oe cz (X39.mono (by decide) (by decide)) hx hZs hZ hS0 (Nat.le_trans (Nat.le_trans (Nat.le_trans (Nat.le_trans (Nat.le_trans (Nat.le_trans (Nat.le_trans (Nat.le_trans (Nat.le_trans (Nat.le_trans (Nat.le_trans (Nat.le_refl _) E1.1) (Nat.le_of_eq (Wr.size W5).symm)) (Nat.le_of_eq (Wr.size W9).symm)) (Nat.le_of_eq (Wr.size W13).symm)) E15.1) (Nat.le_of_eq (Wr.size W19).symm)) (Nat.le_of_eq (Wr.size W23).symm)) (Nat.le_of_eq (Wr.size W27).symm)) (Nat.le_of_eq (Wr.size W31).symm)) (Nat.le_of_eq (Wr.size W35).symm)) (Nat.le_of_eq (Wr.size W39).symm)) hw hby hml howns hown hnm hret hlk e39 Nx39 f49 V39 HBs X_TEXT
  · rw [hq]
    have f50 := V13.ext E15
    have ne51 : b1 ≠ b15 := Nat.ne_of_lt (Nat.lt_of_lt_of_le (Nat.lt_of_lt_of_le (Nat.lt_of_lt_of_le (Nat.lt_of_lt_of_le V1.lt (Nat.le_of_eq (Wr.size W5).symm)) (Nat.le_of_eq (Wr.size W9).symm)) (Nat.le_of_eq (Wr.size W13).symm)) (Nat.le_of_eq g15.symm))
    have f52 := f50.other W19 ne51
    have f53 := f52.other W23 ne51
    have f54 := f53.other W27 ne51
    have f55 := f54.other W31 ne51
    have f56 := f55.other W35 ne51
    have f57 := f56.other W39 ne51
    obtain ⟨cl58, Ar58, q58, S58, N58, H58, G58⟩ := id f57
    have hin58 : ¬ ((1 : Int32) < 0 ∨ cl58.slots.size ≤ ((1 : Int32)).toNatClampNeg) := inb_of S58 ⟨by decide, by decide⟩
    refine own_spV (q := 75) (S' := [(.ref w_SECRET)]) (X39.aaload hx (j := (1 : Int32)) (v := (.ref w_SECRET)) (by rw [e39]; exact Ar58.1) (State.isArrayOf_alike hZ.alike Ar58.2.1) rfl Ar58.2.2 hin58 (H58.at hin58 rfl) (g := (mkF m 74 #[iv i0, iv i1, iv i2, iv i3, iv i4, iv i5, rv b1, rv b15, .unset, .unset, .unset, .unset, .unset, .unset, .unset, .unset, .unset, .unset, .unset, .unset, .unset, .unset, .unset, .unset, .unset, .unset, .unset] [(.int (1 : Int32)), (.ref b1)])) rfl rfl (hb hby at_74)) ?_
    clear hin58 G58 H58 N58 S58 q58 Ar58 cl58
    refine own_stV (T' := T39) (g' := (mkF m 77 #[iv i0, iv i1, iv i2, iv i3, iv i4, iv i5, rv b1, rv b15, rv w_SECRET, .unset, .unset, .unset, .unset, .unset, .unset, .unset, .unset, .unset, .unset, .unset, .unset, .unset, .unset, .unset, .unset, .unset, .unset] [])) (fun _ k_ => XS.astore X39.here hx rfl (hb hby at_75) rfl rfl (l' := #[iv i0, iv i1, iv i2, iv i3, iv i4, iv i5, rv b1, rv b15, rv w_SECRET, .unset, .unset, .unset, .unset, .unset, .unset, .unset, .unset, .unset, .unset, .unset, .unset, .unset, .unset, .unset, .unset, .unset, .unset]) rfl k_) ?_
    have f59 := f36.wr W39 fr15
    exact seg_s77 h0 h39 n0 i0 i1 i2 i3 i4 i5 b1 b15 k15 w_SECRET w_TEXT w_OPTION w_METHOD w_TARGET w_BODY w_TIME w_NONCE dA clD kO mir em el oe cz (X39.mono (by decide) (by decide)) hx hZs hZ hS0 (Nat.le_trans (Nat.le_trans (Nat.le_trans (Nat.le_trans (Nat.le_trans (Nat.le_trans (Nat.le_trans (Nat.le_trans (Nat.le_trans (Nat.le_trans (Nat.le_trans (Nat.le_refl _) E1.1) (Nat.le_of_eq (Wr.size W5).symm)) (Nat.le_of_eq (Wr.size W9).symm)) (Nat.le_of_eq (Wr.size W13).symm)) E15.1) (Nat.le_of_eq (Wr.size W19).symm)) (Nat.le_of_eq (Wr.size W23).symm)) (Nat.le_of_eq (Wr.size W27).symm)) (Nat.le_of_eq (Wr.size W31).symm)) (Nat.le_of_eq (Wr.size W35).symm)) (Nat.le_of_eq (Wr.size W39).symm)) hw hby hml howns hown hnm hret hlk e39 Nx39 f59 V39 HBs X_SECRET
  · rw [hq]
    have f60 := V13.ext E15
    have ne61 : b1 ≠ b15 := Nat.ne_of_lt (Nat.lt_of_lt_of_le (Nat.lt_of_lt_of_le (Nat.lt_of_lt_of_le (Nat.lt_of_lt_of_le V1.lt (Nat.le_of_eq (Wr.size W5).symm)) (Nat.le_of_eq (Wr.size W9).symm)) (Nat.le_of_eq (Wr.size W13).symm)) (Nat.le_of_eq g15.symm))
    have f62 := f60.other W19 ne61
    have f63 := f62.other W23 ne61
    have f64 := f63.other W27 ne61
    have f65 := f64.other W31 ne61
    have f66 := f65.other W35 ne61
    have f67 := f66.other W39 ne61
    obtain ⟨cl68, Ar68, q68, S68, N68, H68, G68⟩ := id f67
    have hin68 : ¬ ((2 : Int32) < 0 ∨ cl68.slots.size ≤ ((2 : Int32)).toNatClampNeg) := inb_of S68 ⟨by decide, by decide⟩
    refine own_spV (q := 75) (S' := [(.ref w_FILE)]) (X39.aaload hx (j := (2 : Int32)) (v := (.ref w_FILE)) (by rw [e39]; exact Ar68.1) (State.isArrayOf_alike hZ.alike Ar68.2.1) rfl Ar68.2.2 hin68 (H68.at hin68 rfl) (g := (mkF m 74 #[iv i0, iv i1, iv i2, iv i3, iv i4, iv i5, rv b1, rv b15, .unset, .unset, .unset, .unset, .unset, .unset, .unset, .unset, .unset, .unset, .unset, .unset, .unset, .unset, .unset, .unset, .unset, .unset, .unset] [(.int (2 : Int32)), (.ref b1)])) rfl rfl (hb hby at_74)) ?_
    clear hin68 G68 H68 N68 S68 q68 Ar68 cl68
    refine own_stV (T' := T39) (g' := (mkF m 77 #[iv i0, iv i1, iv i2, iv i3, iv i4, iv i5, rv b1, rv b15, rv w_FILE, .unset, .unset, .unset, .unset, .unset, .unset, .unset, .unset, .unset, .unset, .unset, .unset, .unset, .unset, .unset, .unset, .unset, .unset] [])) (fun _ k_ => XS.astore X39.here hx rfl (hb hby at_75) rfl rfl (l' := #[iv i0, iv i1, iv i2, iv i3, iv i4, iv i5, rv b1, rv b15, rv w_FILE, .unset, .unset, .unset, .unset, .unset, .unset, .unset, .unset, .unset, .unset, .unset, .unset, .unset, .unset, .unset, .unset, .unset, .unset]) rfl k_) ?_
    have f69 := f36.wr W39 fr15
    exact seg_s77 h0 h39 n0 i0 i1 i2 i3 i4 i5 b1 b15 k15 w_FILE w_TEXT w_OPTION w_METHOD w_TARGET w_BODY w_TIME w_NONCE dA clD kO mir em el oe cz (X39.mono (by decide) (by decide)) hx hZs hZ hS0 (Nat.le_trans (Nat.le_trans (Nat.le_trans (Nat.le_trans (Nat.le_trans (Nat.le_trans (Nat.le_trans (Nat.le_trans (Nat.le_trans (Nat.le_trans (Nat.le_trans (Nat.le_refl _) E1.1) (Nat.le_of_eq (Wr.size W5).symm)) (Nat.le_of_eq (Wr.size W9).symm)) (Nat.le_of_eq (Wr.size W13).symm)) E15.1) (Nat.le_of_eq (Wr.size W19).symm)) (Nat.le_of_eq (Wr.size W23).symm)) (Nat.le_of_eq (Wr.size W27).symm)) (Nat.le_of_eq (Wr.size W31).symm)) (Nat.le_of_eq (Wr.size W35).symm)) (Nat.le_of_eq (Wr.size W39).symm)) hw hby hml howns hown hnm hret hlk e39 Nx39 f69 V39 HBs X_FILE
theorem own_fldR {args : Array Value} {Z : State} {t : Term} {a : Addr} {C n d : String} {b : Addr} (ev : t.eval args Z none [] Z = some (.ref a)) (h : (Term.field t C n d).eval args Z none [] Z = some (.ref b)) : Fld Z Z.heap a C n d (.ref b) := by
  simp only [Term.eval, ev] at h
  exact Fld.start (by simpa using h)
theorem own_fldN {args : Array Value} {Z : State} {t : Term} {a : Addr} {C n d : String} (ev : t.eval args Z none [] Z = some (.ref a)) (h : (Jvm.Cond.eq (Term.field t C n d) Term.null).value args Z none Z [] = some true) : Fld Z Z.heap a C n d .null := by
  cases hv : Z.fieldOf? a C n d with
  | none => simp [Cond.value, Term.eval, ev, hv] at h
  | some x => cases x <;> simp [Cond.value, Term.eval, ev, hv] at h; exact Fld.start hv
set_option maxRecDepth 65536 in
set_option maxHeartbeats 40000000 in
theorem comes_1 {Post : Tables → Env → Array Value → State → Outcome → State → Prop} (hpost : ∀ tb e args s v u, (limb_1_1.after args s (.returned v) u = true ∧ limb_1_2.after args s (.returned v) u = true ∧ True) → ReturnedEndW s (.returned v) u (Jvm.fieldLocs frame_1_writes args s ++ Jvm.arrayLocs frame_1_arrays args s ++ Jvm.staticLocs frame_1_statics s) 80 5440 → Post tb e args s (.returned v) u) :
    ArmFor flags0 classFile x code maxLocals ret World_1 tables_1 room_1 Calls_1 rest_1 Pre_1 Post := by
  intro l hfl _ _ p e ha hc hk s m args below hf hA hF happ hP
  obtain ⟨hcalls, hrest, hpre⟩ := hP
  obtain ⟨-, -, -, hnamed, -, -, -, hat⟩ := (Spec.applies_iff hf).mp happ
  obtain ⟨hg, hn⟩ := and_e (Cond.before_iff.mp (show (Jvm.Cond.and given_1 narrow_1).before args s = true from hpre))
  obtain ⟨u1a, u1b⟩ := and_e hg
  obtain ⟨u2a, u2b⟩ := and_e u1b
  obtain ⟨u3a, u3b⟩ := and_e u2b
  obtain ⟨u4a, u4b⟩ := and_e u3b
  obtain ⟨u5a, u5b⟩ := and_e u4b
  obtain ⟨u6a, u6b⟩ := and_e u5b
  obtain ⟨v0, v1, v2, v3, v4, v5, rfl⟩ : ∃ v0 v1 v2 v3 v4 v5 : Value, args = #[v0, v1, v2, v3, v4, v5] := by
    have hs : args.size = 6 := by simpa [Cond.value, given_1] using u1a
    obtain ⟨L⟩ := args
    match L, hs with
    | [v0, v1, v2, v3, v4, v5], _ => exact ⟨v0, v1, v2, v3, v4, v5, rfl⟩
  have hw := fun d (hd : d ∈ tables_1) => atoms_spec (ws := Jvm.Cond.code x code maxLocals ret :: tables_1) hat d (List.mem_cons_of_mem _ hd)
  have hfit : Fit s := fun {y c} hc i hi => by
    obtain ⟨ha, rfl⟩ := Array.getElem?_eq_some_iff.mp hc
    have q := List.all_eq_true.mp ((Array.all_eq_true_iff_forall_mem.mp hF) _ (Array.getElem_mem ha)) i (List.mem_range.mpr hi)
    simpa [Array.getElem?_eq_getElem hi] using q
  obtain ⟨hsets, hown0⟩ := atoms_of _ (rest_1_c_eq ▸ (show rest_1_c.before _ s = true from hrest))
  have hr0 := Cond.before_iff.mp hown0
  obtain ⟨i0, ei0⟩ := is_v u2a
  obtain rfl : v0 = (.int i0) := Option.some.inj ei0
  obtain ⟨i1, ei1⟩ := is_v u3a
  obtain rfl : v1 = (.int i1) := Option.some.inj ei1
  obtain ⟨i2, ei2⟩ := is_v u4a
  obtain rfl : v2 = (.int i2) := Option.some.inj ei2
  obtain ⟨i3, ei3⟩ := is_v u5a
  obtain rfl : v3 = (.int i3) := Option.some.inj ei3
  obtain ⟨i4, ei4⟩ := is_v u6a
  obtain rfl : v4 = (.int i4) := Option.some.inj ei4
  obtain ⟨i5, ei5⟩ := is_v u6b
  obtain rfl : v5 = (.int i5) := Option.some.inj ei5
  obtain ⟨u7a, u7b⟩ := and_e hn
  obtain ⟨u8a, u8b⟩ := and_e u7b
  obtain ⟨u9a, u9b⟩ := and_e u8b
  obtain ⟨u10a, u10b⟩ := and_e u9b
  obtain ⟨u11a, u11b⟩ := and_e u10b
  obtain ⟨u12a, u12b⟩ := and_e u11b
  obtain ⟨u13a, u13b⟩ := and_e u12b
  obtain ⟨u14a, u14b⟩ := and_e u13b
  obtain ⟨u15a, u15b⟩ := and_e u14b
  obtain ⟨u16a, u16b⟩ := and_e u15b
  obtain ⟨u17a, u17b⟩ := and_e u16b
  obtain ⟨w_TEXT, ev_TEXT⟩ := exa_v u7a
  have S_TEXT := Sta.start ev_TEXT (Or.inr ⟨(wd hw 3 rfl), (wd hw 4 rfl)⟩)
  have X_TEXT := Exa.start ev_TEXT u7a
  obtain ⟨w_SECRET, ev_SECRET⟩ := exa_v u8a
  have S_SECRET := Sta.start ev_SECRET (Or.inr ⟨(wd hw 3 rfl), (wd hw 7 rfl)⟩)
  have X_SECRET := Exa.start ev_SECRET u8a
  obtain ⟨w_FILE, ev_FILE⟩ := exa_v u9a
  have S_FILE := Sta.start ev_FILE (Or.inr ⟨(wd hw 3 rfl), (wd hw 9 rfl)⟩)
  have X_FILE := Exa.start ev_FILE u9a
  obtain ⟨w_OPTION, ev_OPTION⟩ := exa_v u10a
  have S_OPTION := Sta.start ev_OPTION (Or.inr ⟨(wd hw 13 rfl), (wd hw 14 rfl)⟩)
  have X_OPTION := Exa.start ev_OPTION u10a
  obtain ⟨w_METHOD, ev_METHOD⟩ := exa_v u11a
  have S_METHOD := Sta.start ev_METHOD (Or.inr ⟨(wd hw 13 rfl), (wd hw 17 rfl)⟩)
  have X_METHOD := Exa.start ev_METHOD u11a
  obtain ⟨w_TARGET, ev_TARGET⟩ := exa_v u12a
  have S_TARGET := Sta.start ev_TARGET (Or.inr ⟨(wd hw 13 rfl), (wd hw 19 rfl)⟩)
  have X_TARGET := Exa.start ev_TARGET u12a
  obtain ⟨w_BODY, ev_BODY⟩ := exa_v u13a
  have S_BODY := Sta.start ev_BODY (Or.inr ⟨(wd hw 13 rfl), (wd hw 21 rfl)⟩)
  have X_BODY := Exa.start ev_BODY u13a
  obtain ⟨w_TIME, ev_TIME⟩ := exa_v u14a
  have S_TIME := Sta.start ev_TIME (Or.inr ⟨(wd hw 13 rfl), (wd hw 23 rfl)⟩)
  have X_TIME := Exa.start ev_TIME u14a
  obtain ⟨w_NONCE, ev_NONCE⟩ := exa_v u15a
  have S_NONCE := Sta.start ev_NONCE (Or.inr ⟨(wd hw 13 rfl), (wd hw 25 rfl)⟩)
  have X_NONCE := Exa.start ev_NONCE u15a
  have F_SECRET_ordinal := own_fld0 ev_SECRET u16a
  have F_TEXT_ordinal := own_fld0 ev_TEXT u17a
  have F_FILE_ordinal := own_fld0 ev_FILE u17b
  obtain ⟨cz, evc⟩ := is_v (Cond.before_iff.mp (hsets _ (List.mem_of_getElem? (i := 1) rfl)))
  have SC := Sta.start evc (Or.inl (hsets _ (List.mem_of_getElem? (i := 0) rfl)))
  have hcz : ¬ cz = (0 : Int32) := own_nz evc (Cond.before_iff.mp (hsets _ (List.mem_of_getElem? (i := 2) rfl)))
  obtain ⟨dA, evd⟩ := exa_v (Cond.before_iff.mp (hsets _ (List.mem_of_getElem? (i := 16) rfl)))
  have SDe := Sta.start evd (Or.inr ⟨(wd hw 73 rfl), (hsets _ (List.mem_of_getElem? (i := 11) rfl))⟩)
  obtain ⟨clD, AD⟩ := Arr.start evd (Cond.before_iff.mp (hsets _ (List.mem_of_getElem? (i := 15) rfl)))
  have LD := own_len0 evd AD (Cond.before_iff.mp (hsets _ (List.mem_of_getElem? (i := 17) rfl)))
  obtain ⟨em, eve⟩ := exa_v (Cond.before_iff.mp (hsets _ (List.mem_of_getElem? (i := 31) rfl)))
  have SEm := Sta.start eve (Or.inl (hsets _ (List.mem_of_getElem? (i := 30) rfl)))
  have X_em := Exa.start eve (Cond.before_iff.mp (hsets _ (List.mem_of_getElem? (i := 31) rfl)))
  obtain ⟨kO, OV, FC⟩ := own_OV (wd hw 281 rfl)
  obtain ⟨cM, kM, mir, hM1, hM2, hM3, -⟩ := hcalls.1
  have MIR : own_Mir s ks8 mir := ⟨cM, kM, hM1, hM2, hM3⟩
  obtain ⟨el, evl⟩ := exa_v (Cond.before_iff.mp (hsets _ (List.mem_of_getElem? (i := 20) rfl)))
  have S_el := Sta.start evl (Or.inl (hsets _ (List.mem_of_getElem? (i := 19) rfl)))
  have X_el := Exa.start evl (Cond.before_iff.mp (hsets _ (List.mem_of_getElem? (i := 20) rfl)))
  obtain ⟨ela, eva⟩ := exa_v (Cond.before_iff.mp (hsets _ (List.mem_of_getElem? (i := 22) rfl)))
  have F_ele := own_fldR evl eva
  obtain ⟨clE, A_ela⟩ := Arr.start eva (Cond.before_iff.mp (hsets _ (List.mem_of_getElem? (i := 21) rfl)))
  have L_ela := own_len0 eva A_ela (Cond.before_iff.mp (hsets _ (List.mem_of_getElem? (i := 23) rfl)))
  have F_eln := own_fld0 evl (Cond.before_iff.mp (hsets _ (List.mem_of_getElem? (i := 24) rfl)))
  have IL_el : own_IL s s.heap el (1 : Int32) := Or.inr ⟨X_el, F_eln, ela, clE, F_ele, A_ela, by rw [L_ela]; rfl⟩
  obtain ⟨oe, evo⟩ := exa_v (Cond.before_iff.mp (hsets _ (List.mem_of_getElem? (i := 27) rfl)))
  have S_oe := Sta.start evo (Or.inl (hsets _ (List.mem_of_getElem? (i := 26) rfl)))
  have X_oe := Exa.start evo (Cond.before_iff.mp (hsets _ (List.mem_of_getElem? (i := 27) rfl)))
  have F_oe := own_fldN evo (Cond.before_iff.mp (hsets _ (List.mem_of_getElem? (i := 28) rfl)))
  have HBs : own_Bs s w_TEXT w_OPTION w_METHOD w_TARGET w_BODY w_TIME w_NONCE dA clD kO mir em el oe cz := ⟨S_TEXT, S_OPTION, X_OPTION, S_METHOD, X_METHOD, S_TARGET, X_TARGET, S_BODY, X_BODY, S_TIME, X_TIME, S_NONCE, X_NONCE, SDe, AD, LD, OV, FC, MIR, SEm, X_em, S_el, IL_el, S_oe, X_oe, F_oe, SC, hcz⟩
  obtain ⟨n, o, h1, h2, h3, _, L, rfl, ⟨rfl, N⟩, hq⟩ := rm_0 l s _ hw tables_1 i0 i1 i2 i3 i4 i5 w_SECRET w_FILE w_TEXT w_OPTION w_METHOD w_TARGET w_BODY w_TIME w_NONCE dA clD kO mir em el oe cz s.heap s.heap.size (Old.start s) HBs X_TEXT S_SECRET X_SECRET S_FILE X_FILE p e ha hc hk s m _ below hf ((Spec.applies_iff_loose hf).mp happ).1 ⟨rfl, State.Warmed39.refl s, rfl, trivial⟩ trivial
  refine ⟨n, _, h1, h2, h3, hpost _ _ _ _ _ _ ⟨Cond.after_iff.mpr rfl, Cond.after_iff.mpr (eq_i res_at (Term.int_eval (1)) rfl), trivial⟩ ⟨hq.1, hq.2.1, hq.2.2.1, (hq.2.2.2.sift fun y hy => Or.inr (N y hy)).mono (by decide) (by decide)⟩⟩
theorem main_1_1 : Claimed_1_1 := comes_1 fun _ _ _ _ _ _ h hF => ⟨h.1, hF⟩
theorem main_1_2 : Claimed_1_2 := comes_1 fun _ _ _ _ _ _ h hF => ⟨h.2.1, hF⟩
end Walks
end Jvm.Pilot.@@N@@
namespace Jvm.Pilot.@@N@@
open Jvm Jvm.ClassFile Sem Op Lib Jvm.Free Jvm.Stand Jvm.Pilot.@@N@@.Jvm.D
/-! MADE BY PROGRAM (witnessworld.py) out of the Statement's table words and the real class files: 45 classes; the members and pool entries that the words name. The judged class is class 1, her method 1. -/
namespace start1
open Jvm.ClassFile
def u (s : String) : CpInfo := .utf8 (stringToUtf16 s)
/-- a pool by its gaps: so many unusable entries, then the entry; so many at the end -/
def gap : Nat → List CpInfo → List CpInfo
  | 0, r => r
  | n + 1, r => .unusable :: gap n r
def poolList (es : List (Nat × CpInfo)) (last : Nat) : List CpInfo := es.foldr (fun e r => gap e.1 (e.2 :: r)) (gap last [])
def pool (es : List (Nat × CpInfo)) (last : Nat) : Array CpInfo := ⟨poolList es last⟩
def fileOf (pool : Array CpInfo) (this : Nat) (attrs : Array Attribute := #[]) (ms : Array MethodInfo := #[]) (fl : Nat := 33) (sup : Nat := 0) (ifs : Array Nat := #[]) (fds : Array FieldInfo := #[]) : ClassFile where
  minorVersion := 0
  majorVersion := 65
  constantPool := pool
  accessFlags := fl
  thisClass := this
  superClass := sup
  interfaces := ifs
  fields := fds
  methods := ms
  attributes := attrs
def plain (name : String) (sup : Option ClassId) : Class where
  name := name
  kind := .ordinary
  loader := none
  accessFlags := 33
  super := sup
  interfaces := #[]
  cf := none
  fields := #[]
  methods := #[]
  instanceTypes := #[]
  staticTypes := #[]
  resolved := #[]
  callSites := []
  init := .initialized
  statics := none
  mirror := none

def pool0 : Array CpInfo := pool [(5, u "<init>"), (0, u "()V"), (1, .class_ 10), (1, u "java/lang/Object"), (0, u "getClass"), (0, u "()Ljava/lang/Class;")] 111

def k0c0 : Code := { maxStack := 0, maxLocals := 1, code := object_method_1_code, exceptionTable := #[], attributes := #[] }
def k0m0 : Method := { name := "<init>", desc := "()V", sig := { parameters := [], returnType := none }, accessFlags := 1, code := some k0c0 }
def k0m1 : Method := { name := "getClass", desc := "()Ljava/lang/Class;", sig := { parameters := [], returnType := some (.object "java/lang/Class") }, accessFlags := 273, code := none }
/-- java/lang/Object -/
def k0 : Class := { plain "java/lang/Object" none with
  accessFlags := 33
  interfaces := #[]
  cf := some (fileOf pool0 8 #[] #[{ accessFlags := 1, nameIndex := 5, descriptorIndex := 6, attributes := #[] }, { accessFlags := 273, nameIndex := 11, descriptorIndex := 12, attributes := #[] }] 33 0 #[] #[])
  fields := #[]
  methods := #[k0m0, k0m1]
  instanceTypes := #[]
  staticTypes := #[]
  resolved := Array.replicate 124 none
  statics := none }

def pool1 : Array CpInfo := pool [(2, .class_ 4), (0, .nameAndType 5 6), (0, u "java/lang/Object"), (0, u "<init>"), (0, u "()V"), (0, .class_ 8), (0, u "com/example/countersign/countersign/Parameter$Kind"), (0, .fieldref 7 10), (0, .nameAndType 11 12), (0, u "TEXT"), (0, u "Lcom/example/countersign/countersign/Parameter$Kind;"), (0, .fieldref 7 14), (0, .nameAndType 15 12), (0, u "SECRET"), (0, .fieldref 7 17), (0, .nameAndType 18 12), (0, u "FILE"), (0, .class_ 20), (0, u "com/example/countersign/countersign/Parameter$Role"), (0, .fieldref 19 22), (0, .nameAndType 23 24), (0, u "OPTION"), (0, u "Lcom/example/countersign/countersign/Parameter$Role;"), (0, .fieldref 19 26), (0, .nameAndType 27 24), (0, u "METHOD"), (0, .fieldref 19 29), (0, .nameAndType 30 24), (0, u "TARGET"), (0, .fieldref 19 32), (0, .nameAndType 33 24), (0, u "BODY"), (0, .fieldref 19 35), (0, .nameAndType 36 24), (0, u "TIME"), (0, .fieldref 19 38), (0, .nameAndType 39 24), (0, u "NONCE"), (0, .integer 2147483647), (0, .class_ 42), (0, u "java/lang/String"), (0, .methodref 41 44), (0, .nameAndType 5 45), (0, u "([C)V"), (0, .methodref 41 47), (0, .nameAndType 48 49), (0, u "valueOf"), (0, u "(C)Ljava/lang/String;"), (0, .class_ 51), (0, u "java/util/ArrayList"), (0, .methodref 50 3), (0, .methodref 50 54), (0, .nameAndType 55 56), (0, u "add"), (0, u "(Ljava/lang/Object;)Z"), (0, .methodref 58 59), (0, .class_ 60), (0, .nameAndType 61 62), (0, u "com/example/countersign/countersign/Parameter"), (0, u "required"), (0, u "(Ljava/lang/String;Lcom/example/countersign/countersign/Parameter$Kind;Ljava/lang/String;)Lcom/example/countersign/countersign/Parameter;"), (0, .methodref 58 64), (0, .nameAndType 65 62), (0, u "optional"), (0, .methodref 58 67), (0, .nameAndType 68 69), (0, u "withChoices"), (0, u "(Ljava/util/List;)Lcom/example/countersign/countersign/Parameter;"), (0, .methodref 58 71), (0, .nameAndType 72 73), (0, u "asWholeNumber"), (0, u "()Lcom/example/countersign/countersign/Parameter;"), (0, .methodref 58 75), (0, .nameAndType 76 77), (0, u "sentAs"), (0, u "(Ljava/lang/String;)Lcom/example/countersign/countersign/Parameter;"), (0, .methodref 58 79), (0, .nameAndType 80 81), (0, u "as"), (0, u "(Lcom/example/countersign/countersign/Parameter$Role;)Lcom/example/countersign/countersign/Parameter;"), (0, .methodref 58 83), (0, .nameAndType 84 85), (0, u "role"), (0, u "()Lcom/example/countersign/countersign/Parameter$Role;"), (0, .methodref 58 87), (0, .nameAndType 88 89), (0, u "name"), (0, u "()Ljava/lang/String;"), (0, .methodref 41 91), (0, .nameAndType 92 56), (0, u "equals"), (0, .methodref 58 94), (0, .nameAndType 95 96), (0, u "kind"), (0, u "()Lcom/example/countersign/countersign/Parameter$Kind;"), (0, .methodref 58 98), (0, .nameAndType 61 99), (0, u "()Z"), (0, .methodref 58 101), (0, .nameAndType 102 89), (0, u "description"), (0, .methodref 58 104), (0, .nameAndType 105 99), (0, u "wholeNumber"), (0, .methodref 58 107), (0, .nameAndType 108 109), (0, u "header"), (0, u "()Ljava/util/Optional;"), (0, .methodref 111 112), (0, .class_ 113), (0, .nameAndType 114 99), (0, u "java/util/Optional"), (0, u "isPresent"), (0, .methodref 111 91), (0, .methodref 58 117), (0, .nameAndType 118 119), (0, u "choices"), (0, u "()Ljava/util/List;"), (0, .interfaceMethodref 121 122), (0, .class_ 123), (0, .nameAndType 124 125), (0, u "java/util/List"), (0, u "size"), (0, u "()I"), (0, .interfaceMethodref 121 127), (0, .nameAndType 128 129), (0, u "get"), (0, u "(I)Ljava/lang/Object;"), (0, .class_ 131), (0, u "com/example/countersign/countersign/ParameterAsPinLaw"), (2, u "law"), (0, u "(IIIIII)Z")] 10

def k1m0 : Method := { name := "<init>", desc := "()V", sig := { parameters := [], returnType := none }, accessFlags := 2, code := none }
def k1c1 : Code := { maxStack := 7, maxLocals := 27, code := code, exceptionTable := #[], attributes := #[] }
def k1m1 : Method := { name := "law", desc := "(IIIIII)Z", sig := { parameters := [.int, .int, .int, .int, .int, .int], returnType := some .boolean }, accessFlags := 9, code := some k1c1 }
/-- com/example/countersign/countersign/ParameterAsPinLaw -/
def k1 : Class := { plain "com/example/countersign/countersign/ParameterAsPinLaw" (some 0) with
  accessFlags := 49
  interfaces := #[]
  cf := some (fileOf pool1 130 #[] #[{ accessFlags := 2, nameIndex := 5, descriptorIndex := 6, attributes := #[] }, { accessFlags := 9, nameIndex := 134, descriptorIndex := 135, attributes := #[] }] 49 2 #[] #[])
  fields := #[]
  methods := #[k1m0, k1m1]
  instanceTypes := #[]
  staticTypes := #[]
  resolved := Array.replicate 146 none
  statics := none }

def pool2 : Array CpInfo := pool [(1, .class_ 2), (0, u "java/lang/constant/Constable"), (0, .class_ 4), (0, u "java/lang/Object")] 6

/-- java/lang/constant/Constable -/
def k2 : Class := { plain "java/lang/constant/Constable" (some 0) with
  accessFlags := 1537
  interfaces := #[]
  cf := some (fileOf pool2 1 #[] #[] 1537 3 #[] #[])
  fields := #[]
  methods := #[]
  instanceTypes := #[]
  staticTypes := #[]
  resolved := Array.replicate 11 none
  statics := none }

def pool3 : Array CpInfo := pool [(1, .class_ 2), (0, u "java/lang/Comparable"), (0, .class_ 4), (0, u "java/lang/Object")] 7

/-- java/lang/Comparable -/
def k3 : Class := { plain "java/lang/Comparable" (some 0) with
  accessFlags := 1537
  interfaces := #[]
  cf := some (fileOf pool3 1 #[] #[] 1537 3 #[] #[])
  fields := #[]
  methods := #[]
  instanceTypes := #[]
  staticTypes := #[]
  resolved := Array.replicate 12 none
  statics := none }

def pool4 : Array CpInfo := pool [(1, .class_ 2), (0, u "java/io/Serializable"), (0, .class_ 4), (0, u "java/lang/Object")] 2

/-- java/io/Serializable -/
def k4 : Class := { plain "java/io/Serializable" (some 0) with
  accessFlags := 1537
  interfaces := #[]
  cf := some (fileOf pool4 1 #[] #[] 1537 3 #[] #[])
  fields := #[]
  methods := #[]
  instanceTypes := #[]
  staticTypes := #[]
  resolved := Array.replicate 7 none
  statics := none }

def pool5 : Array CpInfo := pool [(2, .class_ 4), (1, u "java/lang/Enum"), (0, u "name"), (0, u "Ljava/lang/String;"), (2, u "ordinal"), (0, u "I"), (1, .class_ 14), (1, u "java/lang/Object"), (4, u "hash"), (86, .class_ 108), (1, u "java/lang/Enum$EnumDesc"), (2, .class_ 112), (0, u "java/lang/constant/Constable"), (0, .class_ 114), (0, u "java/lang/Comparable"), (0, .class_ 116), (0, u "java/io/Serializable")] 87

/-- java/lang/Enum -/
def k5 : Class := { plain "java/lang/Enum" (some 0) with
  accessFlags := 1057
  interfaces := #[2, 3, 4]
  cf := some (fileOf pool5 2 #[.nestMembers #[106]] #[] 1057 12 #[111, 113, 115] #[{ accessFlags := 18, nameIndex := 5, descriptorIndex := 6, attributes := #[] }, { accessFlags := 18, nameIndex := 9, descriptorIndex := 10, attributes := #[] }, { accessFlags := 2, nameIndex := 19, descriptorIndex := 10, attributes := #[] }])
  fields := #[{ name := "name", type := (.object "java/lang/String"), accessFlags := 18, slot := 0, constantValue := 0 }, { name := "ordinal", type := .int, accessFlags := 18, slot := 1, constantValue := 0 }, { name := "hash", type := .int, accessFlags := 2, slot := 2, constantValue := 0 }]
  methods := #[]
  instanceTypes := #[(.object "java/lang/String"), .int, .int]
  staticTypes := #[]
  resolved := Array.replicate 204 none
  statics := none }

def pool6 : Array CpInfo := pool [(1, .class_ 2), (0, u "com/example/countersign/countersign/Parameter$Kind"), (2, u "TEXT"), (0, u "Lcom/example/countersign/countersign/Parameter$Kind;"), (2, u "SECRET"), (2, u "FILE"), (2, u "$VALUES"), (0, u "[Lcom/example/countersign/countersign/Parameter$Kind;"), (6, .class_ 25), (1, u "java/lang/Enum"), (26, .class_ 53), (0, u "com/example/countersign/countersign/Parameter")] 2

/-- com/example/countersign/countersign/Parameter$Kind -/
def k6 : Class := { plain "com/example/countersign/countersign/Parameter$Kind" (some 5) with
  accessFlags := 16433
  interfaces := #[]
  cf := some (fileOf pool6 1 #[.nestHost 52] #[] 16433 23 #[] #[{ accessFlags := 16409, nameIndex := 5, descriptorIndex := 6, attributes := #[] }, { accessFlags := 16409, nameIndex := 9, descriptorIndex := 6, attributes := #[] }, { accessFlags := 16409, nameIndex := 12, descriptorIndex := 6, attributes := #[] }, { accessFlags := 4122, nameIndex := 15, descriptorIndex := 16, attributes := #[] }])
  fields := #[{ name := "TEXT", type := (.object "com/example/countersign/countersign/Parameter$Kind"), accessFlags := 16409, slot := 0, constantValue := 0 }, { name := "SECRET", type := (.object "com/example/countersign/countersign/Parameter$Kind"), accessFlags := 16409, slot := 1, constantValue := 0 }, { name := "FILE", type := (.object "com/example/countersign/countersign/Parameter$Kind"), accessFlags := 16409, slot := 2, constantValue := 0 }, { name := "$VALUES", type := (.array (.object "com/example/countersign/countersign/Parameter$Kind")), accessFlags := 4122, slot := 3, constantValue := 0 }]
  methods := #[]
  instanceTypes := #[(.object "java/lang/String"), .int, .int]
  staticTypes := #[(.object "com/example/countersign/countersign/Parameter$Kind"), (.object "com/example/countersign/countersign/Parameter$Kind"), (.object "com/example/countersign/countersign/Parameter$Kind"), (.array (.object "com/example/countersign/countersign/Parameter$Kind"))]
  resolved := Array.replicate 56 none
  statics := some 0 }

def pool7 : Array CpInfo := pool [(1, .class_ 2), (0, u "com/example/countersign/countersign/Parameter$Role"), (2, u "OPTION"), (0, u "Lcom/example/countersign/countersign/Parameter$Role;"), (2, u "METHOD"), (2, u "TARGET"), (2, u "BODY"), (2, u "TIME"), (2, u "NONCE"), (2, u "$VALUES"), (0, u "[Lcom/example/countersign/countersign/Parameter$Role;"), (6, .class_ 34), (1, u "java/lang/Enum"), (29, .class_ 65), (0, u "com/example/countersign/countersign/Parameter")] 2

/-- com/example/countersign/countersign/Parameter$Role -/
def k7 : Class := { plain "com/example/countersign/countersign/Parameter$Role" (some 5) with
  accessFlags := 16433
  interfaces := #[]
  cf := some (fileOf pool7 1 #[.nestHost 64] #[] 16433 32 #[] #[{ accessFlags := 16409, nameIndex := 5, descriptorIndex := 6, attributes := #[] }, { accessFlags := 16409, nameIndex := 9, descriptorIndex := 6, attributes := #[] }, { accessFlags := 16409, nameIndex := 12, descriptorIndex := 6, attributes := #[] }, { accessFlags := 16409, nameIndex := 15, descriptorIndex := 6, attributes := #[] }, { accessFlags := 16409, nameIndex := 18, descriptorIndex := 6, attributes := #[] }, { accessFlags := 16409, nameIndex := 21, descriptorIndex := 6, attributes := #[] }, { accessFlags := 4122, nameIndex := 24, descriptorIndex := 25, attributes := #[] }])
  fields := #[{ name := "OPTION", type := (.object "com/example/countersign/countersign/Parameter$Role"), accessFlags := 16409, slot := 0, constantValue := 0 }, { name := "METHOD", type := (.object "com/example/countersign/countersign/Parameter$Role"), accessFlags := 16409, slot := 1, constantValue := 0 }, { name := "TARGET", type := (.object "com/example/countersign/countersign/Parameter$Role"), accessFlags := 16409, slot := 2, constantValue := 0 }, { name := "BODY", type := (.object "com/example/countersign/countersign/Parameter$Role"), accessFlags := 16409, slot := 3, constantValue := 0 }, { name := "TIME", type := (.object "com/example/countersign/countersign/Parameter$Role"), accessFlags := 16409, slot := 4, constantValue := 0 }, { name := "NONCE", type := (.object "com/example/countersign/countersign/Parameter$Role"), accessFlags := 16409, slot := 5, constantValue := 0 }, { name := "$VALUES", type := (.array (.object "com/example/countersign/countersign/Parameter$Role")), accessFlags := 4122, slot := 6, constantValue := 0 }]
  methods := #[]
  instanceTypes := #[(.object "java/lang/String"), .int, .int]
  staticTypes := #[(.object "com/example/countersign/countersign/Parameter$Role"), (.object "com/example/countersign/countersign/Parameter$Role"), (.object "com/example/countersign/countersign/Parameter$Role"), (.object "com/example/countersign/countersign/Parameter$Role"), (.object "com/example/countersign/countersign/Parameter$Role"), (.object "com/example/countersign/countersign/Parameter$Role"), (.array (.object "com/example/countersign/countersign/Parameter$Role"))]
  resolved := Array.replicate 68 none
  statics := some 1 }

def pool8 : Array CpInfo := pool [(2, .class_ 4), (1, u "java/lang/CharSequence"), (42, .class_ 48), (0, u "java/lang/CharSequence$1CodePointIterator"), (10, .class_ 60), (0, u "java/lang/CharSequence$1CharIterator"), (5, .class_ 67), (0, u "java/lang/Object")] 63

/-- java/lang/CharSequence -/
def k8 : Class := { plain "java/lang/CharSequence" (some 0) with
  accessFlags := 1537
  interfaces := #[]
  cf := some (fileOf pool8 2 #[.nestMembers #[47, 59]] #[] 1537 66 #[] #[])
  fields := #[]
  methods := #[]
  instanceTypes := #[]
  staticTypes := #[]
  resolved := Array.replicate 131 none
  statics := none }

def pool9 : Array CpInfo := pool [(1, .class_ 2), (0, u "java/lang/constant/ConstantDesc"), (0, .class_ 4), (0, u "java/lang/Object")] 32

/-- java/lang/constant/ConstantDesc -/
def k9 : Class := { plain "java/lang/constant/ConstantDesc" (some 0) with
  accessFlags := 1537
  interfaces := #[]
  cf := some (fileOf pool9 1 #[] #[] 1537 3 #[] #[])
  fields := #[]
  methods := #[]
  instanceTypes := #[]
  staticTypes := #[]
  resolved := Array.replicate 37 none
  statics := none }

def pool10 : Array CpInfo := pool [(1, .methodref 2 3), (0, .class_ 4), (0, .nameAndType 5 6), (0, u "java/lang/Object"), (0, u "<init>"), (0, u "()V"), (2, .fieldref 10 11), (0, .class_ 12), (0, .nameAndType 13 14), (0, u "java/lang/String"), (0, u "value"), (0, u "[B"), (0, .fieldref 10 16), (0, .nameAndType 17 18), (0, u "coder"), (0, u "B"), (2, u "hash"), (0, u "I"), (2, u "hashIsZero"), (0, u "Z"), (0, .methodref 10 28), (0, .nameAndType 5 29), (0, u "([CIILjava/lang/Void;)V"), (8, .fieldref 10 39), (0, .nameAndType 40 26), (0, u "COMPACT_STRINGS"), (1, .class_ 44), (1, u "java/lang/StringUTF16"), (0, u "compress"), (1, .methodref 42 48), (0, .nameAndType 49 50), (0, u "coderFromArrayLen"), (0, u "([BI)B"), (2, u "toBytes"), (53, .class_ 109), (1, u "java/lang/StringLatin1"), (67, .methodref 42 178), (0, .nameAndType 45 179), (0, u "([CII)[B"), (29, .methodref 10 210), (0, .nameAndType 5 211), (0, u "([BB)V"), (157, u "(C)Z"), (173, u "equals"), (29, u "(Ljava/lang/Object;)Z"), (1, .class_ 576), (0, u "java/lang/CharSequence"), (22, u "CASE_INSENSITIVE_ORDER"), (0, u "Ljava/util/Comparator;"), (181, u "valueOf"), (0, u "(C)Ljava/lang/String;"), (226, u "([C)V"), (4, .methodref 107 1016), (0, .nameAndType 1017 369), (0, u "canEncode"), (0, .methodref 107 1019), (0, .nameAndType 53 1020), (0, u "(C)[B"), (80, u "serialPersistentFields"), (0, u "[Ljava/io/ObjectStreamField;"), (0, .class_ 1104), (0, u "java/lang/String$CaseInsensitiveComparator"), (1, .class_ 1107), (0, u "java/io/Serializable"), (0, .class_ 1109), (0, u "java/lang/Comparable"), (0, .class_ 1111), (0, u "java/lang/constant/Constable"), (0, .class_ 1113), (0, u "java/lang/constant/ConstantDesc"), (2, u "serialVersionUID"), (0, u "J"), (3, u "REPL"), (0, u "C"), (2, u "LATIN1"), (1, u "UTF16")] 323

def k10m0 : Method := { name := "<init>", desc := "()V", sig := { parameters := [], returnType := none }, accessFlags := 1, code := none }
def k10c1 : Code := { maxStack := 5, maxLocals := 2, code := jdk_42_method_3_code, exceptionTable := #[], attributes := #[] }
def k10m1 : Method := { name := "<init>", desc := "([C)V", sig := { parameters := [(.array .char)], returnType := none }, accessFlags := 1, code := some k10c1 }
def k10c2 : Code := { maxStack := 2, maxLocals := 3, code := jdk_42_method_66_code, exceptionTable := #[], attributes := #[] }
def k10m2 : Method := { name := "equals", desc := "(Ljava/lang/Object;)Z", sig := { parameters := [(.object "java/lang/Object")], returnType := some .boolean }, accessFlags := 1, code := some k10c2 }
def k10c3 : Code := { maxStack := 4, maxLocals := 1, code := jdk_42_method_139_code, exceptionTable := #[], attributes := #[] }
def k10m3 : Method := { name := "valueOf", desc := "(C)Ljava/lang/String;", sig := { parameters := [.char], returnType := some (.object "java/lang/String") }, accessFlags := 9, code := some k10c3 }
def k10c4 : Code := { maxStack := 4, maxLocals := 6, code := jdk_42_method_149_code, exceptionTable := #[], attributes := #[] }
def k10m4 : Method := { name := "<init>", desc := "([CIILjava/lang/Void;)V", sig := { parameters := [(.array .char), .int, .int, (.object "java/lang/Void")], returnType := none }, accessFlags := 2, code := some k10c4 }
def k10c5 : Code := { maxStack := 2, maxLocals := 3, code := jdk_42_method_151_code, exceptionTable := #[], attributes := #[] }
def k10m5 : Method := { name := "<init>", desc := "([BB)V", sig := { parameters := [(.array .byte), .byte], returnType := none }, accessFlags := 0, code := some k10c5 }
/-- java/lang/String -/
def k10 : Class := { plain "java/lang/String" (some 0) with
  accessFlags := 49
  interfaces := #[4, 3, 8, 2, 9]
  cf := some (fileOf pool10 10 #[.nestMembers #[1103]] #[{ accessFlags := 1, nameIndex := 5, descriptorIndex := 6, attributes := #[] }, { accessFlags := 1, nameIndex := 5, descriptorIndex := 1010, attributes := #[] }, { accessFlags := 1, nameIndex := 543, descriptorIndex := 573, attributes := #[] }, { accessFlags := 9, nameIndex := 782, descriptorIndex := 783, attributes := #[] }, { accessFlags := 2, nameIndex := 5, descriptorIndex := 29, attributes := #[] }, { accessFlags := 0, nameIndex := 5, descriptorIndex := 211, attributes := #[] }] 49 2 #[1106, 1108, 575, 1110, 1112] #[{ accessFlags := 18, nameIndex := 13, descriptorIndex := 14, attributes := #[] }, { accessFlags := 18, nameIndex := 17, descriptorIndex := 18, attributes := #[] }, { accessFlags := 2, nameIndex := 21, descriptorIndex := 22, attributes := #[] }, { accessFlags := 2, nameIndex := 25, descriptorIndex := 26, attributes := #[] }, { accessFlags := 26, nameIndex := 1116, descriptorIndex := 1117, attributes := #[] }, { accessFlags := 24, nameIndex := 40, descriptorIndex := 26, attributes := #[] }, { accessFlags := 26, nameIndex := 1101, descriptorIndex := 1102, attributes := #[] }, { accessFlags := 26, nameIndex := 1121, descriptorIndex := 1122, attributes := #[] }, { accessFlags := 25, nameIndex := 599, descriptorIndex := 600, attributes := #[] }, { accessFlags := 24, nameIndex := 1125, descriptorIndex := 18, attributes := #[] }, { accessFlags := 24, nameIndex := 1127, descriptorIndex := 18, attributes := #[] }])
  fields := #[{ name := "value", type := (.array .byte), accessFlags := 18, slot := 0, constantValue := 0 }, { name := "coder", type := .byte, accessFlags := 18, slot := 1, constantValue := 0 }, { name := "hash", type := .int, accessFlags := 2, slot := 2, constantValue := 0 }, { name := "hashIsZero", type := .boolean, accessFlags := 2, slot := 3, constantValue := 0 }, { name := "serialVersionUID", type := .long, accessFlags := 26, slot := 0, constantValue := 0 }, { name := "COMPACT_STRINGS", type := .boolean, accessFlags := 24, slot := 1, constantValue := 0 }, { name := "serialPersistentFields", type := (.array (.object "java/io/ObjectStreamField")), accessFlags := 26, slot := 2, constantValue := 0 }, { name := "REPL", type := .char, accessFlags := 26, slot := 3, constantValue := 0 }, { name := "CASE_INSENSITIVE_ORDER", type := (.object "java/util/Comparator"), accessFlags := 25, slot := 4, constantValue := 0 }, { name := "LATIN1", type := .byte, accessFlags := 24, slot := 5, constantValue := 0 }, { name := "UTF16", type := .byte, accessFlags := 24, slot := 6, constantValue := 0 }]
  methods := #[k10m0, k10m1, k10m2, k10m3, k10m4, k10m5]
  instanceTypes := #[(.array .byte), .byte, .int, .boolean]
  staticTypes := #[.long, .boolean, (.array (.object "java/io/ObjectStreamField")), .char, (.object "java/util/Comparator"), .byte, .byte]
  resolved := Array.replicate 1451 none
  statics := some 2 }

def pool11 : Array CpInfo := pool [(6, .class_ 8), (1, u "java/lang/Object"), (0, u "<init>"), (0, u "()V"), (1, .class_ 14), (1, u "java/lang/StringUTF16"), (31, u "$assertionsDisabled"), (0, u "Z"), (13, u "HI_BYTE_SHIFT"), (0, u "I"), (2, u "LO_BYTE_SHIFT"), (49, .methodref 12 116), (0, .nameAndType 117 118), (0, u "compress"), (0, u "([CI[BII)I"), (3, u "([CII)[B"), (138, u "coderFromArrayLen"), (0, u "([BI)B"), (106, .class_ 371), (1, u "java/lang/StringUTF16$LinesSpliterator"), (58, u "MAX_LENGTH"), (196, .class_ 628), (0, u "java/lang/StringUTF16$CodePointsSpliterator"), (0, .class_ 630), (0, u "java/lang/StringUTF16$CharsSpliterator")] 4

def k11m0 : Method := { name := "<init>", desc := "()V", sig := { parameters := [], returnType := none }, accessFlags := 0, code := none }
def k11c1 : Code := { maxStack := 2, maxLocals := 2, code := jdk_52_method_15_code, exceptionTable := #[], attributes := #[] }
def k11m1 : Method := { name := "coderFromArrayLen", desc := "([BI)B", sig := { parameters := [(.array .byte), .int], returnType := some .byte }, accessFlags := 8, code := some k11c1 }
def k11c2 : Code := { maxStack := 5, maxLocals := 6, code := jdk_52_method_16_code, exceptionTable := #[], attributes := #[] }
def k11m2 : Method := { name := "compress", desc := "([CII)[B", sig := { parameters := [(.array .char), .int, .int], returnType := some (.array .byte) }, accessFlags := 9, code := some k11c2 }
def k11c3 : Code := { maxStack := 3, maxLocals := 7, code := jdk_52_method_21_code, exceptionTable := #[], attributes := #[] }
def k11m3 : Method := { name := "compress", desc := "([CI[BII)I", sig := { parameters := [(.array .char), .int, (.array .byte), .int, .int], returnType := some .int }, accessFlags := 9, code := some k11c3 }
/-- java/lang/StringUTF16 -/
def k11 : Class := { plain "java/lang/StringUTF16" (some 0) with
  accessFlags := 48
  interfaces := #[]
  cf := some (fileOf pool11 12 #[.nestMembers #[627, 629, 369]] #[{ accessFlags := 0, nameIndex := 9, descriptorIndex := 10, attributes := #[] }, { accessFlags := 8, nameIndex := 261, descriptorIndex := 262, attributes := #[] }, { accessFlags := 9, nameIndex := 117, descriptorIndex := 122, attributes := #[] }, { accessFlags := 9, nameIndex := 117, descriptorIndex := 118, attributes := #[] }] 48 6 #[] #[{ accessFlags := 26, nameIndex := 61, descriptorIndex := 62, attributes := #[] }, { accessFlags := 26, nameIndex := 65, descriptorIndex := 62, attributes := #[] }, { accessFlags := 24, nameIndex := 430, descriptorIndex := 62, attributes := #[] }, { accessFlags := 4120, nameIndex := 46, descriptorIndex := 47, attributes := #[] }])
  fields := #[{ name := "HI_BYTE_SHIFT", type := .int, accessFlags := 26, slot := 0, constantValue := 0 }, { name := "LO_BYTE_SHIFT", type := .int, accessFlags := 26, slot := 1, constantValue := 0 }, { name := "MAX_LENGTH", type := .int, accessFlags := 24, slot := 2, constantValue := 0 }, { name := "$assertionsDisabled", type := .boolean, accessFlags := 4120, slot := 3, constantValue := 0 }]
  methods := #[k11m0, k11m1, k11m2, k11m3]
  instanceTypes := #[]
  staticTypes := #[.int, .int, .int, .boolean]
  resolved := Array.replicate 635 none
  statics := none }

def pool12 : Array CpInfo := pool [(4, .class_ 6), (1, u "java/lang/Object"), (0, u "<init>"), (0, u "()V"), (5, .class_ 16), (1, u "java/lang/StringLatin1"), (73, u "canEncode"), (14, u "(C)Z"), (15, u "$assertionsDisabled"), (0, u "Z"), (98, .class_ 223), (1, u "java/lang/StringLatin1$LinesSpliterator"), (156, u "toBytes"), (1, u "(C)[B"), (7, .class_ 391), (0, u "java/lang/StringLatin1$CharsSpliterator")] 3

def k12m0 : Method := { name := "<init>", desc := "()V", sig := { parameters := [], returnType := none }, accessFlags := 0, code := none }
def k12c1 : Code := { maxStack := 2, maxLocals := 1, code := jdk_43_method_3_code, exceptionTable := #[], attributes := #[] }
def k12m1 : Method := { name := "canEncode", desc := "(C)Z", sig := { parameters := [.char], returnType := some .boolean }, accessFlags := 9, code := some k12c1 }
def k12c2 : Code := { maxStack := 4, maxLocals := 1, code := jdk_43_method_46_code, exceptionTable := #[], attributes := #[] }
def k12m2 : Method := { name := "toBytes", desc := "(C)[B", sig := { parameters := [.char], returnType := some (.array .byte) }, accessFlags := 9, code := some k12c2 }
/-- java/lang/StringLatin1 -/
def k12 : Class := { plain "java/lang/StringLatin1" (some 0) with
  accessFlags := 48
  interfaces := #[]
  cf := some (fileOf pool12 14 #[.nestMembers #[390, 221]] #[{ accessFlags := 0, nameIndex := 7, descriptorIndex := 8, attributes := #[] }, { accessFlags := 9, nameIndex := 90, descriptorIndex := 105, attributes := #[] }, { accessFlags := 9, nameIndex := 380, descriptorIndex := 382, attributes := #[] }] 48 4 #[] #[{ accessFlags := 4120, nameIndex := 121, descriptorIndex := 122, attributes := #[] }])
  fields := #[{ name := "$assertionsDisabled", type := .boolean, accessFlags := 4120, slot := 0, constantValue := 0 }]
  methods := #[k12m0, k12m1, k12m2]
  instanceTypes := #[]
  staticTypes := #[.boolean]
  resolved := Array.replicate 395 none
  statics := none }

def pool13 : Array CpInfo := pool [(8, .class_ 10), (1, u "java/lang/Iterable"), (24, .class_ 36), (0, u "java/lang/Object")] 25

/-- java/lang/Iterable -/
def k13 : Class := { plain "java/lang/Iterable" (some 0) with
  accessFlags := 1537
  interfaces := #[]
  cf := some (fileOf pool13 8 #[] #[] 1537 35 #[] #[])
  fields := #[]
  methods := #[]
  instanceTypes := #[]
  staticTypes := #[]
  resolved := Array.replicate 62 none
  statics := none }

def pool14 : Array CpInfo := pool [(10, .class_ 12), (1, u "java/util/Collection"), (0, u "toArray"), (16, u "()Z"), (29, .class_ 61), (0, u "java/lang/Object"), (0, .class_ 63), (0, u "java/lang/Iterable"), (2, u "isEmpty"), (3, u "()[Ljava/lang/Object;")] 44

def k14m0 : Method := { name := "isEmpty", desc := "()Z", sig := { parameters := [], returnType := some .boolean }, accessFlags := 1025, code := none }
def k14m1 : Method := { name := "toArray", desc := "()[Ljava/lang/Object;", sig := { parameters := [], returnType := some (.array (.object "java/lang/Object")) }, accessFlags := 1025, code := none }
/-- java/util/Collection -/
def k14 : Class := { plain "java/util/Collection" (some 0) with
  accessFlags := 1537
  interfaces := #[13]
  cf := some (fileOf pool14 10 #[] #[{ accessFlags := 1025, nameIndex := 66, descriptorIndex := 30, attributes := #[] }, { accessFlags := 1025, nameIndex := 13, descriptorIndex := 70, attributes := #[] }] 1537 60 #[62] #[])
  fields := #[]
  methods := #[k14m0, k14m1]
  instanceTypes := #[]
  staticTypes := #[]
  resolved := Array.replicate 115 none
  statics := none }

def pool15 : Array CpInfo := pool [(1, .methodref 2 3), (0, .class_ 4), (0, .nameAndType 5 6), (0, u "java/lang/Object"), (0, u "<init>"), (0, u "()V"), (1, .class_ 10), (1, u "java/util/AbstractCollection"), (66, .class_ 78), (0, u "java/util/Collection")] 81

def k15c0 : Code := { maxStack := 1, maxLocals := 1, code := jdk_22_method_1_code, exceptionTable := #[], attributes := #[] }
def k15m0 : Method := { name := "<init>", desc := "()V", sig := { parameters := [], returnType := none }, accessFlags := 4, code := some k15c0 }
/-- java/util/AbstractCollection -/
def k15 : Class := { plain "java/util/AbstractCollection" (some 0) with
  accessFlags := 1057
  interfaces := #[14]
  cf := some (fileOf pool15 8 #[] #[{ accessFlags := 4, nameIndex := 5, descriptorIndex := 6, attributes := #[] }] 1057 2 #[77] #[])
  fields := #[]
  methods := #[k15m0]
  instanceTypes := #[]
  staticTypes := #[]
  resolved := Array.replicate 160 none
  statics := none }

def pool16 : Array CpInfo := pool [(8, .class_ 10), (1, u "java/util/SequencedCollection"), (15, .class_ 27), (0, u "java/lang/Object"), (0, .class_ 29), (0, u "java/util/Collection")] 27

/-- java/util/SequencedCollection -/
def k16 : Class := { plain "java/util/SequencedCollection" (some 0) with
  accessFlags := 1537
  interfaces := #[14]
  cf := some (fileOf pool16 8 #[] #[] 1537 26 #[28] #[])
  fields := #[]
  methods := #[]
  instanceTypes := #[]
  staticTypes := #[]
  resolved := Array.replicate 57 none
  statics := none }

def pool17 : Array CpInfo := pool [(8, .class_ 10), (1, u "java/util/List"), (7, u "()Z"), (12, u "(Ljava/lang/Object;)V"), (16, u "<init>"), (18, u "isEmpty"), (7, u "get"), (0, u "(I)Ljava/lang/Object;"), (2, u "size"), (0, u "()I"), (7, u "of"), (1, .fieldref 91 92), (0, .class_ 93), (0, .nameAndType 94 95), (0, u "java/util/ImmutableCollections"), (0, u "EMPTY_LIST"), (0, u "Ljava/util/ImmutableCollections$ListN;"), (0, .class_ 97), (0, u "java/util/ImmutableCollections$List12"), (0, .methodref 96 99), (0, .nameAndType 48 31), (0, .methodref 96 101), (0, .nameAndType 48 102), (0, u "(Ljava/lang/Object;Ljava/lang/Object;)V"), (0, .class_ 104), (0, u "java/lang/Object"), (3, u "([Ljava/lang/Object;)Ljava/util/List;"), (0, .methodref 91 110), (0, .nameAndType 111 108), (0, u "listFromArray"), (0, .methodref 91 113), (0, .nameAndType 114 115), (0, u "listCopy"), (0, u "(Ljava/util/Collection;)Ljava/util/List;"), (3, u "()Ljava/util/List;"), (0, .class_ 121), (0, u "java/util/SequencedCollection"), (112, u "copyOf")] 16

def k17m0 : Method := { name := "size", desc := "()I", sig := { parameters := [], returnType := some .int }, accessFlags := 1025, code := none }
def k17m1 : Method := { name := "isEmpty", desc := "()Z", sig := { parameters := [], returnType := some .boolean }, accessFlags := 1025, code := none }
def k17m2 : Method := { name := "get", desc := "(I)Ljava/lang/Object;", sig := { parameters := [.int], returnType := some (.object "java/lang/Object") }, accessFlags := 1025, code := none }
def k17c3 : Code := { maxStack := 1, maxLocals := 0, code := jdk_40_method_36_code, exceptionTable := #[], attributes := #[] }
def k17m3 : Method := { name := "of", desc := "()Ljava/util/List;", sig := { parameters := [], returnType := some (.object "java/util/List") }, accessFlags := 9, code := some k17c3 }
def k17c4 : Code := { maxStack := 5, maxLocals := 2, code := jdk_40_method_47_code, exceptionTable := #[], attributes := #[] }
def k17m4 : Method := { name := "of", desc := "([Ljava/lang/Object;)Ljava/util/List;", sig := { parameters := [(.array (.object "java/lang/Object"))], returnType := some (.object "java/util/List") }, accessFlags := 137, code := some k17c4 }
def k17c5 : Code := { maxStack := 1, maxLocals := 1, code := jdk_40_method_48_code, exceptionTable := #[], attributes := #[] }
def k17m5 : Method := { name := "copyOf", desc := "(Ljava/util/Collection;)Ljava/util/List;", sig := { parameters := [(.object "java/util/Collection")], returnType := some (.object "java/util/List") }, accessFlags := 9, code := some k17c5 }
/-- java/util/List -/
def k17 : Class := { plain "java/util/List" (some 0) with
  accessFlags := 1537
  interfaces := #[16]
  cf := some (fileOf pool17 8 #[] #[{ accessFlags := 1025, nameIndex := 79, descriptorIndex := 80, attributes := #[] }, { accessFlags := 1025, nameIndex := 67, descriptorIndex := 18, attributes := #[] }, { accessFlags := 1025, nameIndex := 75, descriptorIndex := 76, attributes := #[] }, { accessFlags := 9, nameIndex := 88, descriptorIndex := 119, attributes := #[] }, { accessFlags := 137, nameIndex := 88, descriptorIndex := 108, attributes := #[] }, { accessFlags := 9, nameIndex := 234, descriptorIndex := 115, attributes := #[] }] 1537 103 #[120] #[])
  fields := #[]
  methods := #[k17m0, k17m1, k17m2, k17m3, k17m4, k17m5]
  instanceTypes := #[]
  staticTypes := #[]
  resolved := Array.replicate 251 none
  statics := none }

def pool18 : Array CpInfo := pool [(1, .methodref 2 3), (0, .class_ 4), (0, .nameAndType 5 6), (0, u "java/util/AbstractCollection"), (0, u "<init>"), (0, u "()V"), (0, .fieldref 8 9), (0, .class_ 10), (0, .nameAndType 11 12), (0, u "java/util/AbstractList"), (0, u "modCount"), (0, u "I"), (64, .class_ 78), (0, u "java/util/AbstractList$Itr"), (3, .class_ 83), (0, u "java/util/AbstractList$ListItr"), (9, .class_ 94), (0, u "java/util/AbstractList$RandomAccessSubList"), (3, .class_ 99), (0, u "java/util/AbstractList$SubList"), (33, .class_ 134), (0, u "java/util/List"), (73, .class_ 209), (0, u "java/util/AbstractList$SubList$1"), (0, .class_ 211), (0, u "java/util/AbstractList$RandomAccessSpliterator")] 6

def k18c0 : Code := { maxStack := 2, maxLocals := 1, code := jdk_39_method_1_code, exceptionTable := #[], attributes := #[] }
def k18m0 : Method := { name := "<init>", desc := "()V", sig := { parameters := [], returnType := none }, accessFlags := 4, code := some k18c0 }
/-- java/util/AbstractList -/
def k18 : Class := { plain "java/util/AbstractList" (some 15) with
  accessFlags := 1057
  interfaces := #[17]
  cf := some (fileOf pool18 8 #[.nestMembers #[93, 98, 208, 210, 82, 77]] #[{ accessFlags := 4, nameIndex := 5, descriptorIndex := 6, attributes := #[] }] 1057 2 #[133] #[{ accessFlags := 132, nameIndex := 11, descriptorIndex := 12, attributes := #[] }])
  fields := #[{ name := "modCount", type := .int, accessFlags := 132, slot := 0, constantValue := 0 }]
  methods := #[k18m0]
  instanceTypes := #[.int]
  staticTypes := #[]
  resolved := Array.replicate 218 none
  statics := none }

def pool19 : Array CpInfo := pool [(1, .class_ 2), (0, u "java/util/RandomAccess"), (0, .class_ 4), (0, u "java/lang/Object")] 2

/-- java/util/RandomAccess -/
def k19 : Class := { plain "java/util/RandomAccess" (some 0) with
  accessFlags := 1537
  interfaces := #[]
  cf := some (fileOf pool19 1 #[] #[] 1537 3 #[] #[])
  fields := #[]
  methods := #[]
  instanceTypes := #[]
  staticTypes := #[]
  resolved := Array.replicate 7 none
  statics := none }

def pool20 : Array CpInfo := pool [(1, .class_ 2), (0, u "java/lang/Cloneable"), (0, .class_ 4), (0, u "java/lang/Object")] 2

/-- java/lang/Cloneable -/
def k20 : Class := { plain "java/lang/Cloneable" (some 0) with
  accessFlags := 1537
  interfaces := #[]
  cf := some (fileOf pool20 1 #[] #[] 1537 3 #[] #[])
  fields := #[]
  methods := #[]
  instanceTypes := #[]
  staticTypes := #[]
  resolved := Array.replicate 7 none
  statics := none }

def pool21 : Array CpInfo := pool [(1, .methodref 2 3), (0, .class_ 4), (0, .nameAndType 5 6), (0, u "java/util/AbstractList"), (0, u "<init>"), (0, u "()V"), (0, .class_ 8), (0, u "java/lang/Object"), (0, .fieldref 10 11), (0, .class_ 12), (0, .nameAndType 13 14), (0, u "java/util/ArrayList"), (0, u "elementData"), (0, u "[Ljava/lang/Object;"), (2, u "EMPTY_ELEMENTDATA"), (21, .fieldref 10 40), (0, .nameAndType 41 14), (0, u "DEFAULTCAPACITY_EMPTY_ELEMENTDATA"), (4, u "toArray"), (0, u "()[Ljava/lang/Object;"), (0, .fieldref 10 49), (0, .nameAndType 50 51), (0, u "size"), (0, u "I"), (6, .class_ 60), (1, u "java/util/Arrays"), (0, u "copyOf"), (1, .fieldref 10 64), (0, .nameAndType 65 51), (0, u "modCount"), (0, .methodref 58 67), (0, .nameAndType 61 68), (0, u "([Ljava/lang/Object;I)[Ljava/lang/Object;"), (0, .methodref 10 70), (0, .nameAndType 71 72), (0, u "grow"), (0, u "(I)[Ljava/lang/Object;"), (6, .methodref 80 81), (0, .class_ 82), (0, .nameAndType 83 84), (0, u "java/lang/Math"), (0, u "max"), (0, u "(II)I"), (11, u "(Ljava/lang/Object;)Z"), (32, .methodref 10 130), (0, .nameAndType 71 47), (0, .methodref 10 132), (0, .nameAndType 133 134), (0, u "add"), (0, u "(Ljava/lang/Object;[Ljava/lang/Object;I)V"), (13, .class_ 149), (0, u "java/util/List"), (23, u "()Z"), (88, .class_ 263), (0, u "java/util/ArrayList$ListItr"), (3, .class_ 268), (0, u "java/util/ArrayList$Itr"), (7, .class_ 277), (0, u "java/util/ArrayList$SubList"), (12, .class_ 291), (0, u "java/util/ArrayList$ArrayListSpliterator"), (37, .class_ 330), (0, u "java/util/RandomAccess"), (0, .class_ 332), (0, u "java/lang/Cloneable"), (0, .class_ 334), (0, u "java/io/Serializable"), (0, u "serialVersionUID"), (0, u "J"), (3, u "DEFAULT_CAPACITY"), (22, u "isEmpty"), (136, .class_ 501), (0, u "java/util/ArrayList$SubList$2"), (0, .class_ 503), (0, u "java/util/ArrayList$SubList$1")] 5

def k21c0 : Code := { maxStack := 2, maxLocals := 1, code := jdk_38_method_2_code, exceptionTable := #[], attributes := #[] }
def k21m0 : Method := { name := "<init>", desc := "()V", sig := { parameters := [], returnType := none }, accessFlags := 1, code := some k21c0 }
def k21c1 : Code := { maxStack := 4, maxLocals := 4, code := jdk_38_method_6_code, exceptionTable := #[], attributes := #[] }
def k21m1 : Method := { name := "grow", desc := "(I)[Ljava/lang/Object;", sig := { parameters := [.int], returnType := some (.array (.object "java/lang/Object")) }, accessFlags := 2, code := some k21c1 }
def k21c2 : Code := { maxStack := 3, maxLocals := 1, code := jdk_38_method_7_code, exceptionTable := #[], attributes := #[] }
def k21m2 : Method := { name := "grow", desc := "()[Ljava/lang/Object;", sig := { parameters := [], returnType := some (.array (.object "java/lang/Object")) }, accessFlags := 2, code := some k21c2 }
def k21c3 : Code := { maxStack := 1, maxLocals := 1, code := jdk_38_method_9_code, exceptionTable := #[], attributes := #[] }
def k21m3 : Method := { name := "isEmpty", desc := "()Z", sig := { parameters := [], returnType := some .boolean }, accessFlags := 1, code := some k21c3 }
def k21c4 : Code := { maxStack := 2, maxLocals := 1, code := jdk_38_method_16_code, exceptionTable := #[], attributes := #[] }
def k21m4 : Method := { name := "toArray", desc := "()[Ljava/lang/Object;", sig := { parameters := [], returnType := some (.array (.object "java/lang/Object")) }, accessFlags := 1, code := some k21c4 }
def k21c5 : Code := { maxStack := 3, maxLocals := 4, code := jdk_38_method_24_code, exceptionTable := #[], attributes := #[] }
def k21m5 : Method := { name := "add", desc := "(Ljava/lang/Object;[Ljava/lang/Object;I)V", sig := { parameters := [(.object "java/lang/Object"), (.array (.object "java/lang/Object")), .int], returnType := none }, accessFlags := 2, code := some k21c5 }
def k21c6 : Code := { maxStack := 4, maxLocals := 2, code := jdk_38_method_25_code, exceptionTable := #[], attributes := #[] }
def k21m6 : Method := { name := "add", desc := "(Ljava/lang/Object;)Z", sig := { parameters := [(.object "java/lang/Object")], returnType := some .boolean }, accessFlags := 1, code := some k21c6 }
/-- java/util/ArrayList -/
def k21 : Class := { plain "java/util/ArrayList" (some 18) with
  accessFlags := 33
  interfaces := #[17, 19, 20, 4]
  cf := some (fileOf pool21 10 #[.nestMembers #[290, 276, 500, 502, 262, 267]] #[{ accessFlags := 1, nameIndex := 5, descriptorIndex := 6, attributes := #[] }, { accessFlags := 2, nameIndex := 71, descriptorIndex := 72, attributes := #[] }, { accessFlags := 2, nameIndex := 71, descriptorIndex := 47, attributes := #[] }, { accessFlags := 1, nameIndex := 363, descriptorIndex := 173, attributes := #[] }, { accessFlags := 1, nameIndex := 46, descriptorIndex := 47, attributes := #[] }, { accessFlags := 2, nameIndex := 133, descriptorIndex := 134, attributes := #[] }, { accessFlags := 1, nameIndex := 133, descriptorIndex := 96, attributes := #[] }] 33 2 #[148, 329, 331, 333] #[{ accessFlags := 26, nameIndex := 335, descriptorIndex := 336, attributes := #[] }, { accessFlags := 26, nameIndex := 340, descriptorIndex := 51, attributes := #[] }, { accessFlags := 26, nameIndex := 17, descriptorIndex := 14, attributes := #[] }, { accessFlags := 26, nameIndex := 41, descriptorIndex := 14, attributes := #[] }, { accessFlags := 128, nameIndex := 13, descriptorIndex := 14, attributes := #[] }, { accessFlags := 2, nameIndex := 50, descriptorIndex := 51, attributes := #[] }])
  fields := #[{ name := "serialVersionUID", type := .long, accessFlags := 26, slot := 0, constantValue := 0 }, { name := "DEFAULT_CAPACITY", type := .int, accessFlags := 26, slot := 1, constantValue := 0 }, { name := "EMPTY_ELEMENTDATA", type := (.array (.object "java/lang/Object")), accessFlags := 26, slot := 2, constantValue := 0 }, { name := "DEFAULTCAPACITY_EMPTY_ELEMENTDATA", type := (.array (.object "java/lang/Object")), accessFlags := 26, slot := 3, constantValue := 0 }, { name := "elementData", type := (.array (.object "java/lang/Object")), accessFlags := 128, slot := 1, constantValue := 0 }, { name := "size", type := .int, accessFlags := 2, slot := 2, constantValue := 0 }]
  methods := #[k21m0, k21m1, k21m2, k21m3, k21m4, k21m5, k21m6]
  instanceTypes := #[.int, (.array (.object "java/lang/Object")), .int]
  staticTypes := #[.long, .int, (.array (.object "java/lang/Object")), (.array (.object "java/lang/Object"))]
  resolved := Array.replicate 509 none
  statics := some 3 }

def pool22 : Array CpInfo := pool [(1, .methodref 2 3), (0, .class_ 4), (0, .nameAndType 5 6), (0, u "java/lang/Object"), (0, u "<init>"), (0, u "()V"), (0, .class_ 8), (0, u "java/lang/Record")] 13

def k22c0 : Code := { maxStack := 1, maxLocals := 1, code := jdk_30_method_1_code, exceptionTable := #[], attributes := #[] }
def k22m0 : Method := { name := "<init>", desc := "()V", sig := { parameters := [], returnType := none }, accessFlags := 4, code := some k22c0 }
/-- java/lang/Record -/
def k22 : Class := { plain "java/lang/Record" (some 0) with
  accessFlags := 1057
  interfaces := #[]
  cf := some (fileOf pool22 7 #[] #[{ accessFlags := 4, nameIndex := 5, descriptorIndex := 6, attributes := #[] }] 1057 2 #[] #[])
  fields := #[]
  methods := #[k22m0]
  instanceTypes := #[]
  staticTypes := #[]
  resolved := Array.replicate 22 none
  statics := none }

def pool23 : Array CpInfo := pool [(1, .methodref 2 3), (0, .class_ 4), (0, .nameAndType 5 6), (0, u "java/lang/Record"), (0, u "<init>"), (0, u "()V"), (0, .string 8), (0, u "name is null"), (0, .methodref 10 11), (0, .class_ 12), (0, .nameAndType 13 14), (0, u "java/util/Objects"), (0, u "requireNonNull"), (0, u "(Ljava/lang/Object;Ljava/lang/String;)Ljava/lang/Object;"), (0, .string 16), (0, u "kind is null"), (0, .string 18), (0, u "description is null"), (0, .string 20), (0, u "role is null"), (0, .string 22), (0, u "header is null"), (0, .interfaceMethodref 24 25), (0, .class_ 26), (0, .nameAndType 27 28), (0, u "java/util/List"), (0, u "copyOf"), (0, u "(Ljava/util/Collection;)Ljava/util/List;"), (0, .interfaceMethodref 24 30), (0, .nameAndType 31 32), (0, u "isEmpty"), (0, u "()Z"), (0, .fieldref 34 35), (0, .class_ 36), (0, .nameAndType 37 38), (0, u "com/example/countersign/countersign/Parameter$Kind"), (0, u "TEXT"), (0, u "Lcom/example/countersign/countersign/Parameter$Kind;"), (10, .methodref 50 51), (0, .class_ 52), (0, .nameAndType 53 32), (0, u "java/util/Optional"), (0, u "isPresent"), (1, .fieldref 56 57), (0, .class_ 58), (0, .nameAndType 59 60), (0, u "com/example/countersign/countersign/Parameter"), (0, u "name"), (0, u "Ljava/lang/String;"), (0, .fieldref 56 62), (0, .nameAndType 63 38), (0, u "kind"), (0, .fieldref 56 65), (0, .nameAndType 66 67), (0, u "required"), (0, u "Z"), (0, .fieldref 56 69), (0, .nameAndType 70 60), (0, u "description"), (0, .fieldref 56 72), (0, .nameAndType 73 74), (0, u "choices"), (0, u "Ljava/util/List;"), (0, .fieldref 56 76), (0, .nameAndType 77 67), (0, u "wholeNumber"), (0, .fieldref 56 79), (0, .nameAndType 80 81), (0, u "role"), (0, u "Lcom/example/countersign/countersign/Parameter$Role;"), (0, .fieldref 56 83), (0, .nameAndType 84 85), (0, u "header"), (0, u "Ljava/util/Optional;"), (0, .interfaceMethodref 24 87), (0, .nameAndType 88 89), (0, u "of"), (0, u "()Ljava/util/List;"), (0, .fieldref 91 92), (0, .class_ 93), (0, .nameAndType 94 81), (0, u "com/example/countersign/countersign/Parameter$Role"), (0, u "OPTION"), (0, .methodref 50 96), (0, .nameAndType 97 98), (0, u "empty"), (0, u "()Ljava/util/Optional;"), (0, .methodref 56 100), (0, .nameAndType 5 101), (0, u "(Ljava/lang/String;Lcom/example/countersign/countersign/Parameter$Kind;ZLjava/lang/String;Ljava/util/List;ZLcom/example/countersign/countersign/Parameter$Role;Ljava/util/Optional;)V"), (0, .methodref 50 103), (0, .nameAndType 88 104), (0, u "(Ljava/lang/Object;)Ljava/util/Optional;"), (22, u "(Ljava/lang/String;Lcom/example/countersign/countersign/Parameter$Kind;Ljava/lang/String;)Lcom/example/countersign/countersign/Parameter;"), (0, u "optional"), (0, u "withChoices"), (0, u "(Ljava/util/List;)Lcom/example/countersign/countersign/Parameter;"), (1, u "asWholeNumber"), (0, u "()Lcom/example/countersign/countersign/Parameter;"), (0, u "as"), (0, u "(Lcom/example/countersign/countersign/Parameter$Role;)Lcom/example/countersign/countersign/Parameter;"), (0, u "sentAs"), (0, u "(Ljava/lang/String;)Lcom/example/countersign/countersign/Parameter;"), (0, u "()Ljava/lang/String;"), (2, u "()Lcom/example/countersign/countersign/Parameter$Kind;"), (1, u "()Lcom/example/countersign/countersign/Parameter$Role;")] 43

def k23c0 : Code := { maxStack := 3, maxLocals := 9, code := prog_6_method_1_code, exceptionTable := #[], attributes := #[] }
def k23m0 : Method := { name := "<init>", desc := "(Ljava/lang/String;Lcom/example/countersign/countersign/Parameter$Kind;ZLjava/lang/String;Ljava/util/List;ZLcom/example/countersign/countersign/Parameter$Role;Ljava/util/Optional;)V", sig := { parameters := [(.object "java/lang/String"), (.object "com/example/countersign/countersign/Parameter$Kind"), .boolean, (.object "java/lang/String"), (.object "java/util/List"), .boolean, (.object "com/example/countersign/countersign/Parameter$Role"), (.object "java/util/Optional")], returnType := none }, accessFlags := 1, code := some k23c0 }
def k23c1 : Code := { maxStack := 10, maxLocals := 3, code := prog_6_method_2_code, exceptionTable := #[], attributes := #[] }
def k23m1 : Method := { name := "required", desc := "(Ljava/lang/String;Lcom/example/countersign/countersign/Parameter$Kind;Ljava/lang/String;)Lcom/example/countersign/countersign/Parameter;", sig := { parameters := [(.object "java/lang/String"), (.object "com/example/countersign/countersign/Parameter$Kind"), (.object "java/lang/String")], returnType := some (.object "com/example/countersign/countersign/Parameter") }, accessFlags := 9, code := some k23c1 }
def k23c2 : Code := { maxStack := 10, maxLocals := 3, code := prog_6_method_3_code, exceptionTable := #[], attributes := #[] }
def k23m2 : Method := { name := "optional", desc := "(Ljava/lang/String;Lcom/example/countersign/countersign/Parameter$Kind;Ljava/lang/String;)Lcom/example/countersign/countersign/Parameter;", sig := { parameters := [(.object "java/lang/String"), (.object "com/example/countersign/countersign/Parameter$Kind"), (.object "java/lang/String")], returnType := some (.object "com/example/countersign/countersign/Parameter") }, accessFlags := 9, code := some k23c2 }
def k23c3 : Code := { maxStack := 10, maxLocals := 2, code := prog_6_method_4_code, exceptionTable := #[], attributes := #[] }
def k23m3 : Method := { name := "withChoices", desc := "(Ljava/util/List;)Lcom/example/countersign/countersign/Parameter;", sig := { parameters := [(.object "java/util/List")], returnType := some (.object "com/example/countersign/countersign/Parameter") }, accessFlags := 1, code := some k23c3 }
def k23c4 : Code := { maxStack := 10, maxLocals := 1, code := prog_6_method_5_code, exceptionTable := #[], attributes := #[] }
def k23m4 : Method := { name := "asWholeNumber", desc := "()Lcom/example/countersign/countersign/Parameter;", sig := { parameters := [], returnType := some (.object "com/example/countersign/countersign/Parameter") }, accessFlags := 1, code := some k23c4 }
def k23c5 : Code := { maxStack := 10, maxLocals := 2, code := prog_6_method_6_code, exceptionTable := #[], attributes := #[] }
def k23m5 : Method := { name := "as", desc := "(Lcom/example/countersign/countersign/Parameter$Role;)Lcom/example/countersign/countersign/Parameter;", sig := { parameters := [(.object "com/example/countersign/countersign/Parameter$Role")], returnType := some (.object "com/example/countersign/countersign/Parameter") }, accessFlags := 1, code := some k23c5 }
def k23c6 : Code := { maxStack := 10, maxLocals := 2, code := prog_6_method_7_code, exceptionTable := #[], attributes := #[] }
def k23m6 : Method := { name := "sentAs", desc := "(Ljava/lang/String;)Lcom/example/countersign/countersign/Parameter;", sig := { parameters := [(.object "java/lang/String")], returnType := some (.object "com/example/countersign/countersign/Parameter") }, accessFlags := 1, code := some k23c6 }
def k23c7 : Code := { maxStack := 1, maxLocals := 1, code := prog_6_method_11_code, exceptionTable := #[], attributes := #[] }
def k23m7 : Method := { name := "name", desc := "()Ljava/lang/String;", sig := { parameters := [], returnType := some (.object "java/lang/String") }, accessFlags := 1, code := some k23c7 }
def k23c8 : Code := { maxStack := 1, maxLocals := 1, code := prog_6_method_12_code, exceptionTable := #[], attributes := #[] }
def k23m8 : Method := { name := "kind", desc := "()Lcom/example/countersign/countersign/Parameter$Kind;", sig := { parameters := [], returnType := some (.object "com/example/countersign/countersign/Parameter$Kind") }, accessFlags := 1, code := some k23c8 }
def k23c9 : Code := { maxStack := 1, maxLocals := 1, code := prog_6_method_13_code, exceptionTable := #[], attributes := #[] }
def k23m9 : Method := { name := "required", desc := "()Z", sig := { parameters := [], returnType := some .boolean }, accessFlags := 1, code := some k23c9 }
def k23c10 : Code := { maxStack := 1, maxLocals := 1, code := prog_6_method_14_code, exceptionTable := #[], attributes := #[] }
def k23m10 : Method := { name := "description", desc := "()Ljava/lang/String;", sig := { parameters := [], returnType := some (.object "java/lang/String") }, accessFlags := 1, code := some k23c10 }
def k23c11 : Code := { maxStack := 1, maxLocals := 1, code := prog_6_method_15_code, exceptionTable := #[], attributes := #[] }
def k23m11 : Method := { name := "choices", desc := "()Ljava/util/List;", sig := { parameters := [], returnType := some (.object "java/util/List") }, accessFlags := 1, code := some k23c11 }
def k23c12 : Code := { maxStack := 1, maxLocals := 1, code := prog_6_method_16_code, exceptionTable := #[], attributes := #[] }
def k23m12 : Method := { name := "wholeNumber", desc := "()Z", sig := { parameters := [], returnType := some .boolean }, accessFlags := 1, code := some k23c12 }
def k23c13 : Code := { maxStack := 1, maxLocals := 1, code := prog_6_method_17_code, exceptionTable := #[], attributes := #[] }
def k23m13 : Method := { name := "role", desc := "()Lcom/example/countersign/countersign/Parameter$Role;", sig := { parameters := [], returnType := some (.object "com/example/countersign/countersign/Parameter$Role") }, accessFlags := 1, code := some k23c13 }
def k23c14 : Code := { maxStack := 1, maxLocals := 1, code := prog_6_method_18_code, exceptionTable := #[], attributes := #[] }
def k23m14 : Method := { name := "header", desc := "()Ljava/util/Optional;", sig := { parameters := [], returnType := some (.object "java/util/Optional") }, accessFlags := 1, code := some k23c14 }
/-- com/example/countersign/countersign/Parameter -/
def k23 : Class := { plain "com/example/countersign/countersign/Parameter" (some 22) with
  accessFlags := 49
  interfaces := #[]
  cf := some (fileOf pool23 56 #[.nestMembers #[91, 34]] #[{ accessFlags := 1, nameIndex := 5, descriptorIndex := 101, attributes := #[] }, { accessFlags := 9, nameIndex := 66, descriptorIndex := 127, attributes := #[] }, { accessFlags := 9, nameIndex := 128, descriptorIndex := 127, attributes := #[] }, { accessFlags := 1, nameIndex := 129, descriptorIndex := 130, attributes := #[] }, { accessFlags := 1, nameIndex := 132, descriptorIndex := 133, attributes := #[] }, { accessFlags := 1, nameIndex := 134, descriptorIndex := 135, attributes := #[] }, { accessFlags := 1, nameIndex := 136, descriptorIndex := 137, attributes := #[] }, { accessFlags := 1, nameIndex := 59, descriptorIndex := 138, attributes := #[] }, { accessFlags := 1, nameIndex := 63, descriptorIndex := 141, attributes := #[] }, { accessFlags := 1, nameIndex := 66, descriptorIndex := 32, attributes := #[] }, { accessFlags := 1, nameIndex := 70, descriptorIndex := 138, attributes := #[] }, { accessFlags := 1, nameIndex := 73, descriptorIndex := 89, attributes := #[] }, { accessFlags := 1, nameIndex := 77, descriptorIndex := 32, attributes := #[] }, { accessFlags := 1, nameIndex := 80, descriptorIndex := 143, attributes := #[] }, { accessFlags := 1, nameIndex := 84, descriptorIndex := 98, attributes := #[] }] 49 2 #[] #[{ accessFlags := 18, nameIndex := 59, descriptorIndex := 60, attributes := #[] }, { accessFlags := 18, nameIndex := 63, descriptorIndex := 38, attributes := #[] }, { accessFlags := 18, nameIndex := 66, descriptorIndex := 67, attributes := #[] }, { accessFlags := 18, nameIndex := 70, descriptorIndex := 60, attributes := #[] }, { accessFlags := 18, nameIndex := 73, descriptorIndex := 74, attributes := #[] }, { accessFlags := 18, nameIndex := 77, descriptorIndex := 67, attributes := #[] }, { accessFlags := 18, nameIndex := 80, descriptorIndex := 81, attributes := #[] }, { accessFlags := 18, nameIndex := 84, descriptorIndex := 85, attributes := #[] }])
  fields := #[{ name := "name", type := (.object "java/lang/String"), accessFlags := 18, slot := 0, constantValue := 0 }, { name := "kind", type := (.object "com/example/countersign/countersign/Parameter$Kind"), accessFlags := 18, slot := 1, constantValue := 0 }, { name := "required", type := .boolean, accessFlags := 18, slot := 2, constantValue := 0 }, { name := "description", type := (.object "java/lang/String"), accessFlags := 18, slot := 3, constantValue := 0 }, { name := "choices", type := (.object "java/util/List"), accessFlags := 18, slot := 4, constantValue := 0 }, { name := "wholeNumber", type := .boolean, accessFlags := 18, slot := 5, constantValue := 0 }, { name := "role", type := (.object "com/example/countersign/countersign/Parameter$Role"), accessFlags := 18, slot := 6, constantValue := 0 }, { name := "header", type := (.object "java/util/Optional"), accessFlags := 18, slot := 7, constantValue := 0 }]
  methods := #[k23m0, k23m1, k23m2, k23m3, k23m4, k23m5, k23m6, k23m7, k23m8, k23m9, k23m10, k23m11, k23m12, k23m13, k23m14]
  instanceTypes := #[(.object "java/lang/String"), (.object "com/example/countersign/countersign/Parameter$Kind"), .boolean, (.object "java/lang/String"), (.object "java/util/List"), .boolean, (.object "com/example/countersign/countersign/Parameter$Role"), (.object "java/util/Optional")]
  staticTypes := #[]
  resolved := Array.replicate 187 none
  statics := none }

def pool24 : Array CpInfo := pool [(2, .class_ 4), (1, u "java/lang/Object"), (0, u "<init>"), (0, u "()V"), (3, .class_ 11), (0, u "java/util/ImmutableCollections$List12"), (0, .class_ 13), (0, u "java/util/ImmutableCollections$ListN"), (0, .fieldref 12 15), (0, .nameAndType 16 17), (0, u "allowNulls"), (0, u "Z"), (0, .class_ 19), (0, u "java/util/List"), (0, .interfaceMethodref 21 22), (0, .class_ 23), (0, .nameAndType 24 25), (0, u "java/util/Collection"), (0, u "isEmpty"), (0, u "()Z"), (2, u "of"), (1, .interfaceMethodref 21 31), (0, .nameAndType 32 33), (0, u "toArray"), (0, u "()[Ljava/lang/Object;"), (0, .interfaceMethodref 18 35), (0, .nameAndType 28 36), (0, u "([Ljava/lang/Object;)Ljava/util/List;"), (0, .methodref 38 39), (0, .class_ 40), (0, .nameAndType 41 42), (0, u "java/util/Objects"), (0, u "requireNonNull"), (0, u "(Ljava/lang/Object;)Ljava/lang/Object;"), (0, .methodref 12 44), (0, .nameAndType 5 45), (0, u "([Ljava/lang/Object;Z)V"), (1, .class_ 49), (1, u "java/util/ImmutableCollections"), (0, u "$assertionsDisabled"), (5, u "[Ljava/lang/Object;"), (5, u "EMPTY_LIST"), (0, u "Ljava/util/ImmutableCollections$ListN;"), (8, u "EMPTY_LIST_NULLS"), (22, u "SALT32L"), (0, u "J"), (2, u "REVERSE"), (6, u "archivedObjects"), (2, u "EMPTY"), (0, u "Ljava/lang/Object;"), (0, .class_ 112), (0, u "java/util/ImmutableCollections$SetN"), (5, u "EMPTY_SET"), (0, u "Ljava/util/ImmutableCollections$SetN;"), (0, .class_ 121), (0, u "java/util/ImmutableCollections$MapN"), (3, u "EMPTY_MAP"), (0, u "Ljava/util/ImmutableCollections$MapN;"), (4, u "EXPAND_FACTOR"), (0, u "I"), (9, u "listCopy"), (0, u "(Ljava/util/Collection;)Ljava/util/List;"), (7, u "listFromArray"), (17, .class_ 170), (0, u "java/util/ImmutableCollections$MapN$MapNIterator"), (0, .class_ 172), (0, u "java/util/ImmutableCollections$MapN$1"), (0, .class_ 174), (0, u "java/util/ImmutableCollections$Map1"), (0, .class_ 176), (0, u "java/util/ImmutableCollections$AbstractImmutableMap"), (0, .class_ 178), (0, u "java/util/ImmutableCollections$SetN$SetNIterator"), (0, .class_ 180), (0, u "java/util/ImmutableCollections$Set12"), (0, .class_ 182), (0, u "java/util/ImmutableCollections$Set12$1"), (0, .class_ 184), (0, u "java/util/ImmutableCollections$AbstractImmutableSet"), (0, .class_ 186), (0, u "java/util/ImmutableCollections$SubList"), (0, .class_ 188), (0, u "java/util/ImmutableCollections$ListItr"), (0, .class_ 190), (0, u "java/util/ImmutableCollections$AbstractImmutableList"), (0, .class_ 192), (0, u "java/util/ImmutableCollections$AbstractImmutableCollection"), (0, .class_ 194), (0, u "java/util/ImmutableCollections$Access"), (0, .class_ 196), (0, u "java/util/ImmutableCollections$Access$1")] 16

def k24m0 : Method := { name := "<init>", desc := "()V", sig := { parameters := [], returnType := none }, accessFlags := 2, code := none }
def k24c1 : Code := { maxStack := 1, maxLocals := 2, code := jdk_56_method_3_code, exceptionTable := #[], attributes := #[] }
def k24m1 : Method := { name := "listCopy", desc := "(Ljava/util/Collection;)Ljava/util/List;", sig := { parameters := [(.object "java/util/Collection")], returnType := some (.object "java/util/List") }, accessFlags := 8, code := some k24c1 }
def k24c2 : Code := { maxStack := 4, maxLocals := 3, code := jdk_56_method_4_code, exceptionTable := #[], attributes := #[] }
def k24m2 : Method := { name := "listFromArray", desc := "([Ljava/lang/Object;)Ljava/util/List;", sig := { parameters := [(.array (.object "java/lang/Object"))], returnType := some (.object "java/util/List") }, accessFlags := 136, code := some k24c2 }
/-- java/util/ImmutableCollections -/
def k24 : Class := { plain "java/util/ImmutableCollections" (some 0) with
  accessFlags := 32
  interfaces := #[]
  cf := some (fileOf pool24 47 #[.nestMembers #[120, 169, 171, 173, 175, 111, 177, 179, 181, 183, 12, 10, 185, 187, 189, 191, 193, 195]] #[{ accessFlags := 2, nameIndex := 5, descriptorIndex := 6, attributes := #[] }, { accessFlags := 8, nameIndex := 142, descriptorIndex := 143, attributes := #[] }, { accessFlags := 136, nameIndex := 151, descriptorIndex := 36, attributes := #[] }] 32 2 #[] #[{ accessFlags := 26, nameIndex := 95, descriptorIndex := 96, attributes := #[] }, { accessFlags := 26, nameIndex := 99, descriptorIndex := 17, attributes := #[] }, { accessFlags := 10, nameIndex := 106, descriptorIndex := 56, attributes := #[] }, { accessFlags := 26, nameIndex := 109, descriptorIndex := 110, attributes := #[] }, { accessFlags := 24, nameIndex := 62, descriptorIndex := 63, attributes := #[] }, { accessFlags := 24, nameIndex := 72, descriptorIndex := 63, attributes := #[] }, { accessFlags := 24, nameIndex := 118, descriptorIndex := 119, attributes := #[] }, { accessFlags := 24, nameIndex := 125, descriptorIndex := 126, attributes := #[] }, { accessFlags := 24, nameIndex := 131, descriptorIndex := 132, attributes := #[] }, { accessFlags := 4120, nameIndex := 50, descriptorIndex := 17, attributes := #[] }])
  fields := #[{ name := "SALT32L", type := .long, accessFlags := 26, slot := 0, constantValue := 0 }, { name := "REVERSE", type := .boolean, accessFlags := 26, slot := 1, constantValue := 0 }, { name := "archivedObjects", type := (.array (.object "java/lang/Object")), accessFlags := 10, slot := 2, constantValue := 0 }, { name := "EMPTY", type := (.object "java/lang/Object"), accessFlags := 26, slot := 3, constantValue := 0 }, { name := "EMPTY_LIST", type := (.object "java/util/ImmutableCollections$ListN"), accessFlags := 24, slot := 4, constantValue := 0 }, { name := "EMPTY_LIST_NULLS", type := (.object "java/util/ImmutableCollections$ListN"), accessFlags := 24, slot := 5, constantValue := 0 }, { name := "EMPTY_SET", type := (.object "java/util/ImmutableCollections$SetN"), accessFlags := 24, slot := 6, constantValue := 0 }, { name := "EMPTY_MAP", type := (.object "java/util/ImmutableCollections$MapN"), accessFlags := 24, slot := 7, constantValue := 0 }, { name := "EXPAND_FACTOR", type := .int, accessFlags := 24, slot := 8, constantValue := 0 }, { name := "$assertionsDisabled", type := .boolean, accessFlags := 4120, slot := 9, constantValue := 0 }]
  methods := #[k24m0, k24m1, k24m2]
  instanceTypes := #[]
  staticTypes := #[.long, .boolean, (.array (.object "java/lang/Object")), (.object "java/lang/Object"), (.object "java/util/ImmutableCollections$ListN"), (.object "java/util/ImmutableCollections$ListN"), (.object "java/util/ImmutableCollections$SetN"), (.object "java/util/ImmutableCollections$MapN"), .int, .boolean]
  resolved := Array.replicate 213 none
  statics := some 4 }

def pool25 : Array CpInfo := pool [(1, .fieldref 2 3), (0, .class_ 4), (0, .nameAndType 5 6), (0, u "java/util/Optional"), (0, u "EMPTY"), (0, u "Ljava/util/Optional;"), (0, .methodref 8 9), (0, .class_ 10), (0, .nameAndType 11 12), (0, u "java/lang/Object"), (0, u "<init>"), (0, u "()V"), (0, .fieldref 2 14), (0, .nameAndType 15 16), (0, u "value"), (0, u "Ljava/lang/Object;"), (0, .methodref 18 19), (0, .class_ 20), (0, .nameAndType 21 22), (0, u "java/util/Objects"), (0, u "requireNonNull"), (0, u "(Ljava/lang/Object;)Ljava/lang/Object;"), (0, .methodref 2 24), (0, .nameAndType 11 25), (0, u "(Ljava/lang/Object;)V"), (20, u "()Z"), (5, u "(Ljava/lang/Object;)Z"), (2, u "empty"), (0, u "()Ljava/util/Optional;"), (8, u "(Ljava/lang/Object;)Ljava/util/Optional;"), (2, u "isPresent"), (13, u "of"), (5, u "equals")] 98

def k25c0 : Code := { maxStack := 1, maxLocals := 1, code := jdk_32_method_1_code, exceptionTable := #[], attributes := #[] }
def k25m0 : Method := { name := "empty", desc := "()Ljava/util/Optional;", sig := { parameters := [], returnType := some (.object "java/util/Optional") }, accessFlags := 9, code := some k25c0 }
def k25c1 : Code := { maxStack := 2, maxLocals := 2, code := jdk_32_method_2_code, exceptionTable := #[], attributes := #[] }
def k25m1 : Method := { name := "<init>", desc := "(Ljava/lang/Object;)V", sig := { parameters := [(.object "java/lang/Object")], returnType := none }, accessFlags := 2, code := some k25c1 }
def k25c2 : Code := { maxStack := 3, maxLocals := 1, code := jdk_32_method_3_code, exceptionTable := #[], attributes := #[] }
def k25m2 : Method := { name := "of", desc := "(Ljava/lang/Object;)Ljava/util/Optional;", sig := { parameters := [(.object "java/lang/Object")], returnType := some (.object "java/util/Optional") }, accessFlags := 9, code := some k25c2 }
def k25c3 : Code := { maxStack := 1, maxLocals := 1, code := jdk_32_method_6_code, exceptionTable := #[], attributes := #[] }
def k25m3 : Method := { name := "isPresent", desc := "()Z", sig := { parameters := [], returnType := some .boolean }, accessFlags := 1, code := some k25c3 }
def k25c4 : Code := { maxStack := 2, maxLocals := 3, code := jdk_32_method_19_code, exceptionTable := #[], attributes := #[] }
def k25m4 : Method := { name := "equals", desc := "(Ljava/lang/Object;)Z", sig := { parameters := [(.object "java/lang/Object")], returnType := some .boolean }, accessFlags := 1, code := some k25c4 }
/-- java/util/Optional -/
def k25 : Class := { plain "java/util/Optional" (some 0) with
  accessFlags := 49
  interfaces := #[]
  cf := some (fileOf pool25 2 #[] #[{ accessFlags := 9, nameIndex := 55, descriptorIndex := 56, attributes := #[] }, { accessFlags := 2, nameIndex := 11, descriptorIndex := 25, attributes := #[] }, { accessFlags := 9, nameIndex := 82, descriptorIndex := 65, attributes := #[] }, { accessFlags := 1, nameIndex := 68, descriptorIndex := 46, attributes := #[] }, { accessFlags := 1, nameIndex := 88, descriptorIndex := 52, attributes := #[] }] 49 8 #[] #[{ accessFlags := 26, nameIndex := 5, descriptorIndex := 6, attributes := #[] }, { accessFlags := 18, nameIndex := 15, descriptorIndex := 16, attributes := #[] }])
  fields := #[{ name := "EMPTY", type := (.object "java/util/Optional"), accessFlags := 26, slot := 0, constantValue := 0 }, { name := "value", type := (.object "java/lang/Object"), accessFlags := 18, slot := 0, constantValue := 0 }]
  methods := #[k25m0, k25m1, k25m2, k25m3, k25m4]
  instanceTypes := #[(.object "java/lang/Object")]
  staticTypes := #[(.object "java/util/Optional")]
  resolved := Array.replicate 187 none
  statics := some 5 }

def pool26 : Array CpInfo := pool [(2, .class_ 4), (1, u "java/lang/Object"), (0, u "<init>"), (0, u "()V"), (35, .class_ 44), (1, u "java/util/Objects"), (0, u "requireNonNull"), (0, u "(Ljava/lang/Object;)Ljava/lang/Object;"), (47, u "(Ljava/lang/Object;Ljava/lang/String;)Ljava/lang/Object;")] 89

def k26m0 : Method := { name := "<init>", desc := "()V", sig := { parameters := [], returnType := none }, accessFlags := 2, code := none }
def k26c1 : Code := { maxStack := 2, maxLocals := 1, code := jdk_31_method_10_code, exceptionTable := #[], attributes := #[] }
def k26m1 : Method := { name := "requireNonNull", desc := "(Ljava/lang/Object;)Ljava/lang/Object;", sig := { parameters := [(.object "java/lang/Object")], returnType := some (.object "java/lang/Object") }, accessFlags := 9, code := some k26c1 }
def k26c2 : Code := { maxStack := 3, maxLocals := 2, code := jdk_31_method_11_code, exceptionTable := #[], attributes := #[] }
def k26m2 : Method := { name := "requireNonNull", desc := "(Ljava/lang/Object;Ljava/lang/String;)Ljava/lang/Object;", sig := { parameters := [(.object "java/lang/Object"), (.object "java/lang/String")], returnType := some (.object "java/lang/Object") }, accessFlags := 9, code := some k26c2 }
/-- java/util/Objects -/
def k26 : Class := { plain "java/util/Objects" (some 0) with
  accessFlags := 49
  interfaces := #[]
  cf := some (fileOf pool26 42 #[] #[{ accessFlags := 2, nameIndex := 5, descriptorIndex := 6, attributes := #[] }, { accessFlags := 9, nameIndex := 45, descriptorIndex := 46, attributes := #[] }, { accessFlags := 9, nameIndex := 45, descriptorIndex := 94, attributes := #[] }] 49 2 #[] #[])
  fields := #[]
  methods := #[k26m0, k26m1, k26m2]
  instanceTypes := #[]
  staticTypes := #[]
  resolved := Array.replicate 184 none
  statics := none }

def pool27 : Array CpInfo := pool [(1, .methodref 2 3), (0, .class_ 4), (0, .nameAndType 5 6), (0, u "java/util/AbstractCollection"), (0, u "<init>"), (0, u "()V"), (1, .class_ 10), (1, u "java/util/ImmutableCollections"), (2, .class_ 14), (0, u "java/util/ImmutableCollections$AbstractImmutableCollection")] 41

def k27c0 : Code := { maxStack := 1, maxLocals := 1, code := jdk_47_method_1_code, exceptionTable := #[], attributes := #[] }
def k27m0 : Method := { name := "<init>", desc := "()V", sig := { parameters := [], returnType := none }, accessFlags := 0, code := some k27c0 }
/-- java/util/ImmutableCollections$AbstractImmutableCollection -/
def k27 : Class := { plain "java/util/ImmutableCollections$AbstractImmutableCollection" (some 15) with
  accessFlags := 1056
  interfaces := #[]
  cf := some (fileOf pool27 13 #[.nestHost 8] #[{ accessFlags := 0, nameIndex := 5, descriptorIndex := 6, attributes := #[] }] 1056 2 #[] #[])
  fields := #[]
  methods := #[k27m0]
  instanceTypes := #[]
  staticTypes := #[]
  resolved := Array.replicate 56 none
  statics := none }

def pool28 : Array CpInfo := pool [(1, .methodref 2 3), (0, .class_ 4), (0, .nameAndType 5 6), (0, u "java/util/ImmutableCollections$AbstractImmutableCollection"), (0, u "<init>"), (0, u "()V"), (1, .class_ 10), (1, u "java/util/ImmutableCollections"), (3, .class_ 16), (1, u "java/util/ImmutableCollections$AbstractImmutableList"), (60, .class_ 78), (0, u "java/util/List"), (45, .class_ 125), (0, u "java/util/RandomAccess")] 70

def k28c0 : Code := { maxStack := 1, maxLocals := 1, code := jdk_46_method_1_code, exceptionTable := #[], attributes := #[] }
def k28m0 : Method := { name := "<init>", desc := "()V", sig := { parameters := [], returnType := none }, accessFlags := 0, code := some k28c0 }
/-- java/util/ImmutableCollections$AbstractImmutableList -/
def k28 : Class := { plain "java/util/ImmutableCollections$AbstractImmutableList" (some 27) with
  accessFlags := 1056
  interfaces := #[17, 19]
  cf := some (fileOf pool28 14 #[.nestHost 8] #[{ accessFlags := 0, nameIndex := 5, descriptorIndex := 6, attributes := #[] }] 1056 2 #[77, 124] #[])
  fields := #[]
  methods := #[k28m0]
  instanceTypes := #[]
  staticTypes := #[]
  resolved := Array.replicate 196 none
  statics := none }

def pool29 : Array CpInfo := pool [(1, .methodref 2 3), (0, .class_ 4), (0, .nameAndType 5 6), (0, u "java/util/ImmutableCollections$AbstractImmutableList"), (0, u "<init>"), (0, u "()V"), (0, .methodref 8 9), (0, .class_ 10), (0, .nameAndType 11 12), (0, u "java/util/Objects"), (0, u "requireNonNull"), (0, u "(Ljava/lang/Object;)Ljava/lang/Object;"), (0, .fieldref 14 15), (0, .class_ 16), (0, .nameAndType 17 18), (0, u "java/util/ImmutableCollections$List12"), (0, u "e0"), (0, u "Ljava/lang/Object;"), (0, .fieldref 20 21), (0, .class_ 22), (0, .nameAndType 23 18), (0, u "java/util/ImmutableCollections"), (0, u "EMPTY"), (0, .fieldref 14 25), (0, .nameAndType 26 18), (0, u "e1"), (24, u "size"), (0, u "()I"), (17, .class_ 71), (0, u "java/io/Serializable"), (4, u "(Ljava/lang/Object;)V"), (8, u "(Ljava/lang/Object;Ljava/lang/Object;)V"), (2, u "isEmpty"), (0, u "()Z"), (0, u "get"), (0, u "(I)Ljava/lang/Object;")] 33

def k29c0 : Code := { maxStack := 2, maxLocals := 2, code := jdk_44_method_1_code, exceptionTable := #[], attributes := #[] }
def k29m0 : Method := { name := "<init>", desc := "(Ljava/lang/Object;)V", sig := { parameters := [(.object "java/lang/Object")], returnType := none }, accessFlags := 0, code := some k29c0 }
def k29c1 : Code := { maxStack := 2, maxLocals := 3, code := jdk_44_method_2_code, exceptionTable := #[], attributes := #[] }
def k29m1 : Method := { name := "<init>", desc := "(Ljava/lang/Object;Ljava/lang/Object;)V", sig := { parameters := [(.object "java/lang/Object"), (.object "java/lang/Object")], returnType := none }, accessFlags := 0, code := some k29c1 }
def k29c2 : Code := { maxStack := 2, maxLocals := 1, code := jdk_44_method_3_code, exceptionTable := #[], attributes := #[] }
def k29m2 : Method := { name := "size", desc := "()I", sig := { parameters := [], returnType := some .int }, accessFlags := 1, code := some k29c2 }
def k29c3 : Code := { maxStack := 1, maxLocals := 1, code := jdk_44_method_4_code, exceptionTable := #[], attributes := #[] }
def k29m3 : Method := { name := "isEmpty", desc := "()Z", sig := { parameters := [], returnType := some .boolean }, accessFlags := 1, code := some k29c3 }
def k29c4 : Code := { maxStack := 2, maxLocals := 2, code := jdk_44_method_5_code, exceptionTable := #[], attributes := #[] }
def k29m4 : Method := { name := "get", desc := "(I)Ljava/lang/Object;", sig := { parameters := [.int], returnType := some (.object "java/lang/Object") }, accessFlags := 1, code := some k29c4 }
/-- java/util/ImmutableCollections$List12 -/
def k29 : Class := { plain "java/util/ImmutableCollections$List12" (some 28) with
  accessFlags := 48
  interfaces := #[4]
  cf := some (fileOf pool29 14 #[.nestHost 20] #[{ accessFlags := 0, nameIndex := 5, descriptorIndex := 76, attributes := #[] }, { accessFlags := 0, nameIndex := 5, descriptorIndex := 85, attributes := #[] }, { accessFlags := 1, nameIndex := 51, descriptorIndex := 52, attributes := #[] }, { accessFlags := 1, nameIndex := 88, descriptorIndex := 89, attributes := #[] }, { accessFlags := 1, nameIndex := 90, descriptorIndex := 91, attributes := #[] }] 48 2 #[70] #[{ accessFlags := 18, nameIndex := 17, descriptorIndex := 18, attributes := #[] }, { accessFlags := 18, nameIndex := 26, descriptorIndex := 18, attributes := #[] }])
  fields := #[{ name := "e0", type := (.object "java/lang/Object"), accessFlags := 18, slot := 0, constantValue := 0 }, { name := "e1", type := (.object "java/lang/Object"), accessFlags := 18, slot := 1, constantValue := 0 }]
  methods := #[k29m0, k29m1, k29m2, k29m3, k29m4]
  instanceTypes := #[(.object "java/lang/Object"), (.object "java/lang/Object")]
  staticTypes := #[]
  resolved := Array.replicate 125 none
  statics := none }

def pool30 : Array CpInfo := pool [(1, .methodref 2 3), (0, .class_ 4), (0, .nameAndType 5 6), (0, u "java/util/ImmutableCollections$AbstractImmutableList"), (0, u "<init>"), (0, u "()V"), (0, .fieldref 8 9), (0, .class_ 10), (0, .nameAndType 11 12), (0, u "java/util/ImmutableCollections$ListN"), (0, u "elements"), (0, u "[Ljava/lang/Object;"), (0, .fieldref 8 14), (0, .nameAndType 15 16), (0, u "allowNulls"), (0, u "Z"), (42, .class_ 60), (0, u "java/io/Serializable"), (4, u "([Ljava/lang/Object;Z)V"), (8, u "isEmpty"), (0, u "()Z"), (1, u "size"), (0, u "()I"), (0, u "get"), (0, u "(I)Ljava/lang/Object;"), (33, .class_ 115), (0, u "java/util/ImmutableCollections")] 3

def k30c0 : Code := { maxStack := 2, maxLocals := 3, code := jdk_45_method_1_code, exceptionTable := #[], attributes := #[] }
def k30m0 : Method := { name := "<init>", desc := "([Ljava/lang/Object;Z)V", sig := { parameters := [(.array (.object "java/lang/Object")), .boolean], returnType := none }, accessFlags := 2, code := some k30c0 }
def k30c1 : Code := { maxStack := 1, maxLocals := 1, code := jdk_45_method_2_code, exceptionTable := #[], attributes := #[] }
def k30m1 : Method := { name := "isEmpty", desc := "()Z", sig := { parameters := [], returnType := some .boolean }, accessFlags := 1, code := some k30c1 }
def k30c2 : Code := { maxStack := 1, maxLocals := 1, code := jdk_45_method_3_code, exceptionTable := #[], attributes := #[] }
def k30m2 : Method := { name := "size", desc := "()I", sig := { parameters := [], returnType := some .int }, accessFlags := 1, code := some k30c2 }
def k30c3 : Code := { maxStack := 2, maxLocals := 2, code := jdk_45_method_4_code, exceptionTable := #[], attributes := #[] }
def k30m3 : Method := { name := "get", desc := "(I)Ljava/lang/Object;", sig := { parameters := [.int], returnType := some (.object "java/lang/Object") }, accessFlags := 1, code := some k30c3 }
/-- java/util/ImmutableCollections$ListN -/
def k30 : Class := { plain "java/util/ImmutableCollections$ListN" (some 28) with
  accessFlags := 48
  interfaces := #[4]
  cf := some (fileOf pool30 8 #[.nestHost 114] #[{ accessFlags := 2, nameIndex := 5, descriptorIndex := 65, attributes := #[] }, { accessFlags := 1, nameIndex := 74, descriptorIndex := 75, attributes := #[] }, { accessFlags := 1, nameIndex := 77, descriptorIndex := 78, attributes := #[] }, { accessFlags := 1, nameIndex := 79, descriptorIndex := 80, attributes := #[] }] 48 2 #[59] #[{ accessFlags := 18, nameIndex := 11, descriptorIndex := 12, attributes := #[] }, { accessFlags := 18, nameIndex := 15, descriptorIndex := 16, attributes := #[] }])
  fields := #[{ name := "elements", type := (.array (.object "java/lang/Object")), accessFlags := 18, slot := 0, constantValue := 0 }, { name := "allowNulls", type := .boolean, accessFlags := 18, slot := 1, constantValue := 0 }]
  methods := #[k30m0, k30m1, k30m2, k30m3]
  instanceTypes := #[(.array (.object "java/lang/Object")), .boolean]
  staticTypes := #[]
  resolved := Array.replicate 119 none
  statics := none }

def pool31 : Array CpInfo := pool [(1, .class_ 2), (0, u "java/lang/Math"), (1, .class_ 6), (1, u "java/lang/Object"), (0, u "<init>"), (0, u "()V"), (89, .class_ 100), (1, u "java/lang/Math$RandomNumberGeneratorHolder"), (71, u "negativeZeroFloatBits"), (0, u "J"), (2, u "negativeZeroDoubleBits"), (21, u "max"), (2, u "min"), (43, u "$assertionsDisabled"), (0, u "Z"), (88, u "(II)I"), (2, u "twoToTheDoubleScaleDown"), (0, u "D"), (4, u "twoToTheDoubleScaleUp"), (9, u "E"), (3, u "PI"), (2, u "TAU"), (2, u "DEGREES_TO_RADIANS"), (0, u "RADIANS_TO_DEGREES")] 94

def k31m0 : Method := { name := "<init>", desc := "()V", sig := { parameters := [], returnType := none }, accessFlags := 2, code := none }
def k31c1 : Code := { maxStack := 2, maxLocals := 2, code := jdk_29_method_65_code, exceptionTable := #[], attributes := #[] }
def k31m1 : Method := { name := "max", desc := "(II)I", sig := { parameters := [.int, .int], returnType := some .int }, accessFlags := 9, code := some k31c1 }
def k31c2 : Code := { maxStack := 2, maxLocals := 2, code := jdk_29_method_69_code, exceptionTable := #[], attributes := #[] }
def k31m2 : Method := { name := "min", desc := "(II)I", sig := { parameters := [.int, .int], returnType := some .int }, accessFlags := 9, code := some k31c2 }
/-- java/lang/Math -/
def k31 : Class := { plain "java/lang/Math" (some 0) with
  accessFlags := 49
  interfaces := #[]
  cf := some (fileOf pool31 1 #[.nestMembers #[98]] #[{ accessFlags := 2, nameIndex := 7, descriptorIndex := 8, attributes := #[] }, { accessFlags := 9, nameIndex := 198, descriptorIndex := 335, attributes := #[] }, { accessFlags := 9, nameIndex := 201, descriptorIndex := 335, attributes := #[] }] 49 4 #[] #[{ accessFlags := 25, nameIndex := 354, descriptorIndex := 339, attributes := #[] }, { accessFlags := 25, nameIndex := 358, descriptorIndex := 339, attributes := #[] }, { accessFlags := 25, nameIndex := 361, descriptorIndex := 339, attributes := #[] }, { accessFlags := 26, nameIndex := 364, descriptorIndex := 339, attributes := #[] }, { accessFlags := 26, nameIndex := 365, descriptorIndex := 339, attributes := #[] }, { accessFlags := 26, nameIndex := 172, descriptorIndex := 173, attributes := #[] }, { accessFlags := 26, nameIndex := 176, descriptorIndex := 173, attributes := #[] }, { accessFlags := 8, nameIndex := 344, descriptorIndex := 339, attributes := #[] }, { accessFlags := 8, nameIndex := 338, descriptorIndex := 339, attributes := #[] }, { accessFlags := 4120, nameIndex := 245, descriptorIndex := 246, attributes := #[] }])
  fields := #[{ name := "E", type := .double, accessFlags := 25, slot := 0, constantValue := 0 }, { name := "PI", type := .double, accessFlags := 25, slot := 1, constantValue := 0 }, { name := "TAU", type := .double, accessFlags := 25, slot := 2, constantValue := 0 }, { name := "DEGREES_TO_RADIANS", type := .double, accessFlags := 26, slot := 3, constantValue := 0 }, { name := "RADIANS_TO_DEGREES", type := .double, accessFlags := 26, slot := 4, constantValue := 0 }, { name := "negativeZeroFloatBits", type := .long, accessFlags := 26, slot := 5, constantValue := 0 }, { name := "negativeZeroDoubleBits", type := .long, accessFlags := 26, slot := 6, constantValue := 0 }, { name := "twoToTheDoubleScaleUp", type := .double, accessFlags := 8, slot := 7, constantValue := 0 }, { name := "twoToTheDoubleScaleDown", type := .double, accessFlags := 8, slot := 8, constantValue := 0 }, { name := "$assertionsDisabled", type := .boolean, accessFlags := 4120, slot := 9, constantValue := 0 }]
  methods := #[k31m0, k31m1, k31m2]
  instanceTypes := #[]
  staticTypes := #[.double, .double, .double, .double, .double, .long, .long, .double, .double, .boolean]
  resolved := Array.replicate 460 none
  statics := none }

def pool32 : Array CpInfo := pool [(2, .class_ 4), (1, u "java/lang/Object"), (0, u "<init>"), (0, u "()V"), (7, .class_ 16), (1, u "java/util/Arrays"), (57, .class_ 76), (1, u "java/util/Arrays$NaturalOrder"), (9, .methodref 2 87), (0, .nameAndType 88 89), (0, u "getClass"), (0, u "()Ljava/lang/Class;"), (20, .class_ 111), (0, u "[Ljava/lang/Object;"), (1, .class_ 115), (1, u "java/util/Arrays$LegacyMergeSort"), (1, u "Z"), (32, .methodref 151 152), (0, .class_ 153), (0, .nameAndType 154 155), (0, u "java/lang/System"), (0, u "arraycopy"), (0, u "(Ljava/lang/Object;ILjava/lang/Object;II)V"), (144, .methodref 14 301), (0, .nameAndType 302 303), (0, u "copyOf"), (0, u "([Ljava/lang/Object;ILjava/lang/Class;)[Ljava/lang/Object;"), (0, .methodref 305 306), (0, .class_ 307), (0, .nameAndType 308 309), (0, u "java/lang/Math"), (0, u "min"), (0, u "(II)I"), (65, .class_ 376), (0, u "java/util/Arrays$ArrayList"), (68, u "$assertionsDisabled"), (269, u "MIN_ARRAY_SORT_GRAN"), (0, u "I"), (2, u "INSERTIONSORT_THRESHOLD"), (140, u "([Ljava/lang/Object;I)[Ljava/lang/Object;"), (114, .class_ 976), (0, u "java/util/Arrays$ArrayItr")] 52

def k32m0 : Method := { name := "<init>", desc := "()V", sig := { parameters := [], returnType := none }, accessFlags := 2, code := none }
def k32c1 : Code := { maxStack := 3, maxLocals := 2, code := jdk_65_method_119_code, exceptionTable := #[], attributes := #[] }
def k32m1 : Method := { name := "copyOf", desc := "([Ljava/lang/Object;I)[Ljava/lang/Object;", sig := { parameters := [(.array (.object "java/lang/Object")), .int], returnType := some (.array (.object "java/lang/Object")) }, accessFlags := 9, code := some k32c1 }
def k32c2 : Code := { maxStack := 6, maxLocals := 4, code := jdk_65_method_120_code, exceptionTable := #[], attributes := #[] }
def k32m2 : Method := { name := "copyOf", desc := "([Ljava/lang/Object;ILjava/lang/Class;)[Ljava/lang/Object;", sig := { parameters := [(.array (.object "java/lang/Object")), .int, (.object "java/lang/Class")], returnType := some (.array (.object "java/lang/Object")) }, accessFlags := 9, code := some k32c2 }
/-- java/util/Arrays -/
def k32 : Class := { plain "java/util/Arrays" (some 0) with
  accessFlags := 49
  interfaces := #[]
  cf := some (fileOf pool32 14 #[.nestMembers #[975, 375, 113, 74]] #[{ accessFlags := 2, nameIndex := 5, descriptorIndex := 6, attributes := #[] }, { accessFlags := 9, nameIndex := 302, descriptorIndex := 860, attributes := #[] }, { accessFlags := 9, nameIndex := 302, descriptorIndex := 303, attributes := #[] }] 49 2 #[] #[{ accessFlags := 26, nameIndex := 715, descriptorIndex := 716, attributes := #[] }, { accessFlags := 26, nameIndex := 719, descriptorIndex := 716, attributes := #[] }, { accessFlags := 4120, nameIndex := 445, descriptorIndex := 117, attributes := #[] }])
  fields := #[{ name := "MIN_ARRAY_SORT_GRAN", type := .int, accessFlags := 26, slot := 0, constantValue := 0 }, { name := "INSERTIONSORT_THRESHOLD", type := .int, accessFlags := 26, slot := 1, constantValue := 0 }, { name := "$assertionsDisabled", type := .boolean, accessFlags := 4120, slot := 2, constantValue := 0 }]
  methods := #[k32m0, k32m1, k32m2]
  instanceTypes := #[]
  staticTypes := #[.int, .int, .boolean]
  resolved := Array.replicate 1029 none
  statics := none }

def pool33 : Array CpInfo := pool [(2, .class_ 4), (1, u "java/lang/Object"), (0, u "<init>"), (0, u "()V"), (1, .class_ 10), (1, u "java/lang/System"), (0, u "allowSecurityManager"), (0, u "I"), (16, u "cons"), (0, u "Ljava/io/Console;"), (77, .class_ 110), (1, u "java/lang/System$CallersHolder"), (43, u "initialErrStream"), (0, u "Ljava/io/PrintStream;"), (19, u "security"), (0, u "Ljava/lang/SecurityManager;"), (31, .class_ 209), (0, u "java/lang/System$1"), (7, u "props"), (0, u "Ljava/util/Properties;"), (2, u "lineSeparator"), (0, u "Ljava/lang/String;"), (96, .class_ 321), (1, u "java/lang/System$LoggerFinder"), (5, .class_ 328), (0, u "java/lang/System$Logger"), (67, u "err"), (2, u "out"), (91, u "notSupportedJnuEncoding"), (15, u "in"), (17, u "initialIn"), (0, u "Ljava/io/InputStream;"), (35, u "bootLayer"), (0, u "Ljava/lang/ModuleLayer;"), (99, .class_ 664), (0, u "java/lang/System$2"), (9, u "NEVER"), (2, u "MAYBE"), (49, u "arraycopy"), (0, u "(Ljava/lang/Object;ILjava/lang/Object;II)V"), (72, .class_ 802), (0, u "java/lang/System$Logger$Level")] 31

def k33m0 : Method := { name := "<init>", desc := "()V", sig := { parameters := [], returnType := none }, accessFlags := 2, code := none }
def k33m1 : Method := { name := "arraycopy", desc := "(Ljava/lang/Object;ILjava/lang/Object;II)V", sig := { parameters := [(.object "java/lang/Object"), .int, (.object "java/lang/Object"), .int, .int], returnType := none }, accessFlags := 265, code := none }
/-- java/lang/System -/
def k33 : Class := { plain "java/lang/System" (some 0) with
  accessFlags := 49
  interfaces := #[]
  cf := some (fileOf pool33 8 #[.nestMembers #[319, 327, 801, 108, 663, 208]] #[{ accessFlags := 2, nameIndex := 5, descriptorIndex := 6, attributes := #[] }, { accessFlags := 265, nameIndex := 727, descriptorIndex := 728, attributes := #[] }] 49 2 #[] #[{ accessFlags := 25, nameIndex := 507, descriptorIndex := 526, attributes := #[] }, { accessFlags := 25, nameIndex := 399, descriptorIndex := 155, attributes := #[] }, { accessFlags := 25, nameIndex := 396, descriptorIndex := 155, attributes := #[] }, { accessFlags := 10, nameIndex := 525, descriptorIndex := 526, attributes := #[] }, { accessFlags := 26, nameIndex := 674, descriptorIndex := 12, attributes := #[] }, { accessFlags := 26, nameIndex := 677, descriptorIndex := 12, attributes := #[] }, { accessFlags := 10, nameIndex := 11, descriptorIndex := 12, attributes := #[] }, { accessFlags := 74, nameIndex := 175, descriptorIndex := 176, attributes := #[] }, { accessFlags := 10, nameIndex := 491, descriptorIndex := 222, attributes := #[] }, { accessFlags := 74, nameIndex := 29, descriptorIndex := 30, attributes := #[] }, { accessFlags := 74, nameIndex := 154, descriptorIndex := 155, attributes := #[] }, { accessFlags := 10, nameIndex := 217, descriptorIndex := 218, attributes := #[] }, { accessFlags := 10, nameIndex := 221, descriptorIndex := 222, attributes := #[] }, { accessFlags := 8, nameIndex := 562, descriptorIndex := 563, attributes := #[] }])
  fields := #[{ name := "in", type := (.object "java/io/InputStream"), accessFlags := 25, slot := 0, constantValue := 0 }, { name := "out", type := (.object "java/io/PrintStream"), accessFlags := 25, slot := 1, constantValue := 0 }, { name := "err", type := (.object "java/io/PrintStream"), accessFlags := 25, slot := 2, constantValue := 0 }, { name := "initialIn", type := (.object "java/io/InputStream"), accessFlags := 10, slot := 3, constantValue := 0 }, { name := "NEVER", type := .int, accessFlags := 26, slot := 4, constantValue := 0 }, { name := "MAYBE", type := .int, accessFlags := 26, slot := 5, constantValue := 0 }, { name := "allowSecurityManager", type := .int, accessFlags := 10, slot := 6, constantValue := 0 }, { name := "security", type := (.object "java/lang/SecurityManager"), accessFlags := 74, slot := 7, constantValue := 0 }, { name := "notSupportedJnuEncoding", type := (.object "java/lang/String"), accessFlags := 10, slot := 8, constantValue := 0 }, { name := "cons", type := (.object "java/io/Console"), accessFlags := 74, slot := 9, constantValue := 0 }, { name := "initialErrStream", type := (.object "java/io/PrintStream"), accessFlags := 74, slot := 10, constantValue := 0 }, { name := "props", type := (.object "java/util/Properties"), accessFlags := 10, slot := 11, constantValue := 0 }, { name := "lineSeparator", type := (.object "java/lang/String"), accessFlags := 10, slot := 12, constantValue := 0 }, { name := "bootLayer", type := (.object "java/lang/ModuleLayer"), accessFlags := 8, slot := 13, constantValue := 0 }]
  methods := #[k33m0, k33m1]
  instanceTypes := #[]
  staticTypes := #[(.object "java/io/InputStream"), (.object "java/io/PrintStream"), (.object "java/io/PrintStream"), (.object "java/io/InputStream"), .int, .int, .int, (.object "java/lang/SecurityManager"), (.object "java/lang/String"), (.object "java/io/Console"), (.object "java/io/PrintStream"), (.object "java/util/Properties"), (.object "java/lang/String"), (.object "java/lang/ModuleLayer")]
  resolved := Array.replicate 834 none
  statics := none }

def pool34 : Array CpInfo := pool [(2, .class_ 4), (1, u "java/lang/Object"), (0, u "<init>"), (0, u "()V"), (17, .class_ 26), (1, u "jdk/internal/util/Preconditions"), (28, .class_ 56), (0, u "jdk/internal/util/Preconditions$4"), (57, .class_ 115), (0, u "jdk/internal/util/Preconditions$1"), (7, u "SIOOBE_FORMATTER"), (0, u "Ljava/util/function/BiFunction;"), (0, .class_ 126), (0, u "jdk/internal/util/Preconditions$2"), (3, u "AIOOBE_FORMATTER"), (0, .class_ 132), (0, u "jdk/internal/util/Preconditions$3"), (3, u "IOOBE_FORMATTER")] 57

def k34m0 : Method := { name := "<init>", desc := "()V", sig := { parameters := [], returnType := none }, accessFlags := 1, code := none }
/-- jdk/internal/util/Preconditions -/
def k34 : Class := { plain "jdk/internal/util/Preconditions" (some 0) with
  accessFlags := 33
  interfaces := #[]
  cf := some (fileOf pool34 24 #[.nestMembers #[55, 131, 125, 114]] #[{ accessFlags := 1, nameIndex := 5, descriptorIndex := 6, attributes := #[] }] 33 2 #[] #[{ accessFlags := 25, nameIndex := 123, descriptorIndex := 124, attributes := #[] }, { accessFlags := 25, nameIndex := 130, descriptorIndex := 124, attributes := #[] }, { accessFlags := 25, nameIndex := 136, descriptorIndex := 124, attributes := #[] }])
  fields := #[{ name := "SIOOBE_FORMATTER", type := (.object "java/util/function/BiFunction"), accessFlags := 25, slot := 0, constantValue := 0 }, { name := "AIOOBE_FORMATTER", type := (.object "java/util/function/BiFunction"), accessFlags := 25, slot := 1, constantValue := 0 }, { name := "IOOBE_FORMATTER", type := (.object "java/util/function/BiFunction"), accessFlags := 25, slot := 2, constantValue := 0 }]
  methods := #[k34m0]
  instanceTypes := #[]
  staticTypes := #[(.object "java/util/function/BiFunction"), (.object "java/util/function/BiFunction"), (.object "java/util/function/BiFunction")]
  resolved := Array.replicate 194 none
  statics := some 6 }

def pool35 : Array CpInfo := pool [(9, u "<init>"), (6, .class_ 18), (1, u "java/lang/Object"), (0, u "()V"), (1, .class_ 23), (1, u "jdk/internal/util/ArraysSupport"), (0, u "LOG2_ARRAY_LONG_INDEX_SCALE"), (0, u "I"), (2, u "U"), (0, u "Ljdk/internal/misc/Unsafe;"), (8, u "BIG_ENDIAN"), (0, u "Z"), (8, u "LOG2_BYTE_BIT_SIZE"), (4, u "LOG2_ARRAY_INT_INDEX_SCALE"), (54, u "JLA"), (0, u "Ljdk/internal/access/JavaLangAccess;"), (11, u "LOG2_ARRAY_BOOLEAN_INDEX_SCALE"), (9, u "LOG2_ARRAY_BYTE_INDEX_SCALE"), (5, u "LOG2_ARRAY_CHAR_INDEX_SCALE"), (5, u "LOG2_ARRAY_SHORT_INDEX_SCALE"), (18, u "LOG2_ARRAY_FLOAT_INDEX_SCALE"), (24, u "LOG2_ARRAY_DOUBLE_INDEX_SCALE"), (89, u "T_BOOLEAN"), (2, u "T_CHAR"), (1, u "T_FLOAT"), (1, u "T_DOUBLE"), (1, u "T_BYTE"), (1, u "T_SHORT"), (1, u "T_INT"), (1, u "T_LONG"), (1, u "SOFT_MAX_ARRAY_LENGTH")] 83

def k35m0 : Method := { name := "<init>", desc := "()V", sig := { parameters := [], returnType := none }, accessFlags := 2, code := none }
/-- jdk/internal/util/ArraysSupport -/
def k35 : Class := { plain "jdk/internal/util/ArraysSupport" (some 0) with
  accessFlags := 33
  interfaces := #[]
  cf := some (fileOf pool35 21 #[] #[{ accessFlags := 2, nameIndex := 9, descriptorIndex := 19, attributes := #[] }] 33 16 #[] #[{ accessFlags := 24, nameIndex := 28, descriptorIndex := 29, attributes := #[] }, { accessFlags := 26, nameIndex := 38, descriptorIndex := 39, attributes := #[] }, { accessFlags := 25, nameIndex := 121, descriptorIndex := 25, attributes := #[] }, { accessFlags := 25, nameIndex := 131, descriptorIndex := 25, attributes := #[] }, { accessFlags := 25, nameIndex := 137, descriptorIndex := 25, attributes := #[] }, { accessFlags := 25, nameIndex := 143, descriptorIndex := 25, attributes := #[] }, { accessFlags := 25, nameIndex := 53, descriptorIndex := 25, attributes := #[] }, { accessFlags := 25, nameIndex := 24, descriptorIndex := 25, attributes := #[] }, { accessFlags := 25, nameIndex := 162, descriptorIndex := 25, attributes := #[] }, { accessFlags := 25, nameIndex := 187, descriptorIndex := 25, attributes := #[] }, { accessFlags := 26, nameIndex := 48, descriptorIndex := 25, attributes := #[] }, { accessFlags := 25, nameIndex := 277, descriptorIndex := 25, attributes := #[] }, { accessFlags := 25, nameIndex := 280, descriptorIndex := 25, attributes := #[] }, { accessFlags := 25, nameIndex := 282, descriptorIndex := 25, attributes := #[] }, { accessFlags := 25, nameIndex := 284, descriptorIndex := 25, attributes := #[] }, { accessFlags := 25, nameIndex := 286, descriptorIndex := 25, attributes := #[] }, { accessFlags := 25, nameIndex := 288, descriptorIndex := 25, attributes := #[] }, { accessFlags := 25, nameIndex := 290, descriptorIndex := 25, attributes := #[] }, { accessFlags := 25, nameIndex := 292, descriptorIndex := 25, attributes := #[] }, { accessFlags := 26, nameIndex := 108, descriptorIndex := 109, attributes := #[] }, { accessFlags := 25, nameIndex := 294, descriptorIndex := 25, attributes := #[] }])
  fields := #[{ name := "U", type := (.object "jdk/internal/misc/Unsafe"), accessFlags := 24, slot := 0, constantValue := 0 }, { name := "BIG_ENDIAN", type := .boolean, accessFlags := 26, slot := 1, constantValue := 0 }, { name := "LOG2_ARRAY_BOOLEAN_INDEX_SCALE", type := .int, accessFlags := 25, slot := 2, constantValue := 0 }, { name := "LOG2_ARRAY_BYTE_INDEX_SCALE", type := .int, accessFlags := 25, slot := 3, constantValue := 0 }, { name := "LOG2_ARRAY_CHAR_INDEX_SCALE", type := .int, accessFlags := 25, slot := 4, constantValue := 0 }, { name := "LOG2_ARRAY_SHORT_INDEX_SCALE", type := .int, accessFlags := 25, slot := 5, constantValue := 0 }, { name := "LOG2_ARRAY_INT_INDEX_SCALE", type := .int, accessFlags := 25, slot := 6, constantValue := 0 }, { name := "LOG2_ARRAY_LONG_INDEX_SCALE", type := .int, accessFlags := 25, slot := 7, constantValue := 0 }, { name := "LOG2_ARRAY_FLOAT_INDEX_SCALE", type := .int, accessFlags := 25, slot := 8, constantValue := 0 }, { name := "LOG2_ARRAY_DOUBLE_INDEX_SCALE", type := .int, accessFlags := 25, slot := 9, constantValue := 0 }, { name := "LOG2_BYTE_BIT_SIZE", type := .int, accessFlags := 26, slot := 10, constantValue := 0 }, { name := "T_BOOLEAN", type := .int, accessFlags := 25, slot := 11, constantValue := 0 }, { name := "T_CHAR", type := .int, accessFlags := 25, slot := 12, constantValue := 0 }, { name := "T_FLOAT", type := .int, accessFlags := 25, slot := 13, constantValue := 0 }, { name := "T_DOUBLE", type := .int, accessFlags := 25, slot := 14, constantValue := 0 }, { name := "T_BYTE", type := .int, accessFlags := 25, slot := 15, constantValue := 0 }, { name := "T_SHORT", type := .int, accessFlags := 25, slot := 16, constantValue := 0 }, { name := "T_INT", type := .int, accessFlags := 25, slot := 17, constantValue := 0 }, { name := "T_LONG", type := .int, accessFlags := 25, slot := 18, constantValue := 0 }, { name := "JLA", type := (.object "jdk/internal/access/JavaLangAccess"), accessFlags := 26, slot := 19, constantValue := 0 }, { name := "SOFT_MAX_ARRAY_LENGTH", type := .int, accessFlags := 25, slot := 20, constantValue := 0 }]
  methods := #[k35m0]
  instanceTypes := #[]
  staticTypes := #[(.object "jdk/internal/misc/Unsafe"), .boolean, .int, .int, .int, .int, .int, .int, .int, .int, .int, .int, .int, .int, .int, .int, .int, .int, .int, (.object "jdk/internal/access/JavaLangAccess"), .int]
  resolved := Array.replicate 378 none
  statics := none }

/-- the primitive byte -/
def k36 : Class := { plain "byte" none with kind := .primitive 'B', accessFlags := 0x411 }
/-- [B -/
def k37 : Class := { plain "[B" (some 0) with kind := .array 36 .byte, interfaces := #[20, 4], accessFlags := 1041 }

/-- the primitive char -/
def k38 : Class := { plain "char" none with kind := .primitive 'C', accessFlags := 0x411 }
/-- [C -/
def k39 : Class := { plain "[C" (some 0) with kind := .array 38 .char, interfaces := #[20, 4], accessFlags := 1041 }

/-- the primitive int -/
def k40 : Class := { plain "int" none with kind := .primitive 'I', accessFlags := 0x411 }
/-- [I -/
def k41 : Class := { plain "[I" (some 0) with kind := .array 40 .int, interfaces := #[20, 4], accessFlags := 1041 }

/-- [Lcom/example/countersign/countersign/Parameter$Kind; -/
def k42 : Class := { plain "[Lcom/example/countersign/countersign/Parameter$Kind;" (some 0) with kind := .array 6 (.object "com/example/countersign/countersign/Parameter$Kind"), interfaces := #[20, 4], accessFlags := 1041 }

/-- [Lcom/example/countersign/countersign/Parameter$Role; -/
def k43 : Class := { plain "[Lcom/example/countersign/countersign/Parameter$Role;" (some 0) with kind := .array 7 (.object "com/example/countersign/countersign/Parameter$Role"), interfaces := #[20, 4], accessFlags := 1041 }

/-- [Ljava/lang/Object; -/
def k44 : Class := { plain "[Ljava/lang/Object;" (some 0) with kind := .array 0 (.object "java/lang/Object"), interfaces := #[20, 4], accessFlags := 1041, mirror := some 7 }

def heap : Heap := #[{ cls := 6, slots := #[.ref 9, .ref 10, .ref 11, .null], vm := .statics 6 },
  { cls := 7, slots := #[.ref 12, .ref 12, .ref 12, .ref 12, .ref 12, .ref 12, .null], vm := .statics 7 },
  { cls := 10, slots := #[.long 0, .int 1, .null, .int 0, .null, .int 0, .int 0], vm := .statics 10 },
  { cls := 21, slots := #[.long 0, .int 0, .ref 15, .ref 16], vm := .statics 21 },
  { cls := 24, slots := #[.long 0, .int 0, .null, .ref 17, .ref 13, .null, .null, .null, .int 0, .int 1], vm := .statics 24 },
  { cls := 25, slots := #[.ref 14], vm := .statics 25 },
  { cls := 34, slots := #[.null, .null, .null], vm := .statics 34 },
  { cls := 0, slots := #[], vm := .mirror 44 },
  { cls := 44, slots := #[], vm := .none },
  { cls := 6, slots := #[.null, .int 0, .int 0], vm := .none },
  { cls := 6, slots := #[.null, .int 1, .int 0], vm := .none },
  { cls := 6, slots := #[.null, .int 2, .int 0], vm := .none },
  { cls := 7, slots := #[.null, .int 0, .int 0], vm := .none },
  { cls := 30, slots := #[.ref 8, .int 0], vm := .none },
  { cls := 25, slots := #[.null], vm := .none },
  { cls := 44, slots := #[], vm := .none },
  { cls := 44, slots := #[], vm := .none },
  { cls := 0, slots := #[], vm := .none }]
def classes : Array Class := #[k0, k1, k2, k3, k4, k5, k6, k7, k8, k9, k10, k11, k12, k13, k14, k15, k16, k17, k18, k19, k20, k21, k22, k23, k24, k25, k26, k27, k28, k29, k30, k31, k32, k33, k34, k35, k36, k37, k38, k39, k40, k41, k42, k43, k44]
def interned : List (Array UInt16 × Addr) := []
def slotsUsed : Nat := 51
def theMethod : MethodId := ⟨1, 1⟩
def args0 : Array Value := #[.int 5, .int 3, .int 7, .int 2, .int 1, .int 9]
def aboutOver (below : List Frame) : State where
  vm := { classes := classes, interned := interned.toArray }
  heap := heap
  slotsUsed := slotsUsed
  threads := #[{ frames := .invoking theMethod args0 :: below }]
def below0 : List Frame := [.native { method := ⟨0, 0⟩, args := #[] }]
def about1 : State := aboutOver below0
def p0 : Program := .bare "" "" ""
def e0 : Env := launch0.env 0 0 0
theorem w_frames : about1.frames = Frame.invoking theMethod args0 :: below0 := rfl
set_option maxRecDepth 65536 in
theorem w_args : argsFit about1.vm theMethod args0 = true := by decide +kernel
set_option maxRecDepth 65536 in
theorem w_heap : heapFits about1 = true := by decide +kernel
set_option maxRecDepth 65536 in
theorem w_runnable : about1.curStatus? = some .runnable := by decide +kernel
set_option maxRecDepth 65536 in
theorem w_alone : about1.alone = true := by decide +kernel
set_option maxRecDepth 65536 in
theorem w_named : about1.methodNamed? x = some theMethod := by decide +kernel
set_option maxRecDepth 65536 in
theorem w_hears : about1.hears theMethod below0 = true := by decide +kernel
set_option maxRecDepth 65536 in
theorem w_ripe : about1.ripe theMethod args0 below0 = true := by decide +kernel
theorem w_running : about1.status = .running := rfl
set_option maxRecDepth 65536 in
theorem w_room : about1.hasRoom e0.platform room_1 = true :=
  launch0.hasRoom_least _ room_1 (by decide +kernel) (by decide +kernel) (by decide +kernel) (by decide +kernel) (by decide +kernel) (by decide +kernel)
theorem allAtoms_all (ts : List Jvm.Cond) (a : Array Jvm.Value) (st : Jvm.State) : (allAtoms ts).before a st = ts.all (fun c => c.before a st) := by
  induction ts with
  | nil => rfl
  | cons c t ih =>
    show (Jvm.Cond.and c (allAtoms t)).before a st = _
    rw [Jvm.Cond.before_and, ih, List.all_cons]
def words1 : List Jvm.Cond := Jvm.Cond.code x code maxLocals ret :: tables_1
/-- a 'code' word, met by the world's own term for the bytes: nothing is compared byte by byte -/
theorem code_word {y : MethodName} {bytes : ByteArray} {mx : Nat} {rt : Option FieldType} {a : Array Value} {s : State} {m : MethodId} {meth : Method} {c : Code} (h1 : s.methodNamed? y = some m) (h2 : s.vm.method? m = some meth) (h3 : meth.code = some c) (h4 : c.code = bytes)
    (h5 : (c.maxLocals == mx && c.exceptionTable.isEmpty && decide (c.maxStack ≤ mostOperands) && decide (meth.sig.returnType = rt) && !meth.locks && decide (parseMethodDescriptor y.desc = some meth.sig)) = true) : (Jvm.Cond.code y bytes mx rt).before a s = true := by
  simp only [Bool.and_eq_true, beq_iff_eq, Bool.not_eq_true', decide_eq_true_eq] at h5
  obtain ⟨⟨⟨⟨⟨g1, g2⟩, g3⟩, g4⟩, g5⟩, g6⟩ := h5
  simp [Cond.before, Cond.holds, Cond.value, h1, h2, h3, h4, g1, g2, g3, g4, g5, g6]
def isCode : Jvm.Cond → Bool
  | .code _ _ _ _ => true
  | _ => false
theorem all_split {L : List Jvm.Cond} {P : Jvm.Cond → Bool} (h1 : L.all (fun c => isCode c || P c) = true) (h2 : ∀ c ∈ L.filter isCode, P c = true) : L.all P = true := by
  refine List.all_eq_true.mpr fun c hc => ?_
  have h := List.all_eq_true.mp h1 c hc
  rcases Bool.eq_false_or_eq_true (isCode c) with hi | hi
  · exact h2 c (List.mem_filter.mpr ⟨hc, hi⟩)
  · simpa [hi] using h
set_option maxRecDepth 65536 in
theorem w_c0 : (Jvm.Cond.code x code maxLocals ret).before args0 about1 = true := code_word (m := ⟨1, 1⟩) (meth := k1m1) (c := k1c1) (by decide +kernel) rfl rfl rfl (by decide +kernel)
set_option maxRecDepth 65536 in
theorem w_c1 : (Jvm.Cond.code ({ cls := "java/lang/String", name := "<init>", desc := "([C)V" } : Jvm.MethodName) jdk_42_method_3_code (2 : Nat) (Option.none : Option Jvm.ClassFile.FieldType)).before args0 about1 = true := code_word (m := ⟨10, 1⟩) (meth := k10m1) (c := k10c1) (by decide +kernel) rfl rfl rfl (by decide +kernel)
set_option maxRecDepth 65536 in
theorem w_c2 : (Jvm.Cond.code ({ cls := "java/lang/String", name := "<init>", desc := "([CIILjava/lang/Void;)V" } : Jvm.MethodName) jdk_42_method_149_code (6 : Nat) (Option.none : Option Jvm.ClassFile.FieldType)).before args0 about1 = true := code_word (m := ⟨10, 4⟩) (meth := k10m4) (c := k10c4) (by decide +kernel) rfl rfl rfl (by decide +kernel)
set_option maxRecDepth 65536 in
theorem w_c3 : (Jvm.Cond.code ({ cls := "java/lang/Object", name := "<init>", desc := "()V" } : Jvm.MethodName) object_method_1_code (1 : Nat) (Option.none : Option Jvm.ClassFile.FieldType)).before args0 about1 = true := code_word (m := ⟨0, 0⟩) (meth := k0m0) (c := k0c0) (by decide +kernel) rfl rfl rfl (by decide +kernel)
set_option maxRecDepth 65536 in
theorem w_c4 : (Jvm.Cond.code ({ cls := "java/lang/StringUTF16", name := "compress", desc := "([CII)[B" } : Jvm.MethodName) jdk_52_method_16_code (6 : Nat) (Option.some (Jvm.ClassFile.FieldType.array Jvm.ClassFile.FieldType.byte))).before args0 about1 = true := code_word (m := ⟨11, 2⟩) (meth := k11m2) (c := k11c2) (by decide +kernel) rfl rfl rfl (by decide +kernel)
set_option maxRecDepth 65536 in
theorem w_c5 : (Jvm.Cond.code ({ cls := "java/lang/StringUTF16", name := "compress", desc := "([CI[BII)I" } : Jvm.MethodName) jdk_52_method_21_code (7 : Nat) (Option.some Jvm.ClassFile.FieldType.int)).before args0 about1 = true := code_word (m := ⟨11, 3⟩) (meth := k11m3) (c := k11c3) (by decide +kernel) rfl rfl rfl (by decide +kernel)
set_option maxRecDepth 65536 in
theorem w_c6 : (Jvm.Cond.code ({ cls := "java/lang/StringUTF16", name := "coderFromArrayLen", desc := "([BI)B" } : Jvm.MethodName) jdk_52_method_15_code (2 : Nat) (Option.some Jvm.ClassFile.FieldType.byte)).before args0 about1 = true := code_word (m := ⟨11, 1⟩) (meth := k11m1) (c := k11c1) (by decide +kernel) rfl rfl rfl (by decide +kernel)
set_option maxRecDepth 65536 in
theorem w_c7 : (Jvm.Cond.code ({ cls := "java/lang/String", name := "valueOf", desc := "(C)Ljava/lang/String;" } : Jvm.MethodName) jdk_42_method_139_code (1 : Nat) (Option.some (Jvm.ClassFile.FieldType.object "java/lang/String"))).before args0 about1 = true := code_word (m := ⟨10, 3⟩) (meth := k10m3) (c := k10c3) (by decide +kernel) rfl rfl rfl (by decide +kernel)
set_option maxRecDepth 65536 in
theorem w_c8 : (Jvm.Cond.code ({ cls := "java/lang/StringLatin1", name := "canEncode", desc := "(C)Z" } : Jvm.MethodName) jdk_43_method_3_code (1 : Nat) (Option.some Jvm.ClassFile.FieldType.boolean)).before args0 about1 = true := code_word (m := ⟨12, 1⟩) (meth := k12m1) (c := k12c1) (by decide +kernel) rfl rfl rfl (by decide +kernel)
set_option maxRecDepth 65536 in
theorem w_c9 : (Jvm.Cond.code ({ cls := "java/lang/StringLatin1", name := "toBytes", desc := "(C)[B" } : Jvm.MethodName) jdk_43_method_46_code (1 : Nat) (Option.some (Jvm.ClassFile.FieldType.array Jvm.ClassFile.FieldType.byte))).before args0 about1 = true := code_word (m := ⟨12, 2⟩) (meth := k12m2) (c := k12c2) (by decide +kernel) rfl rfl rfl (by decide +kernel)
set_option maxRecDepth 65536 in
theorem w_c10 : (Jvm.Cond.code ({ cls := "java/lang/String", name := "<init>", desc := "([BB)V" } : Jvm.MethodName) jdk_42_method_151_code (3 : Nat) (Option.none : Option Jvm.ClassFile.FieldType)).before args0 about1 = true := code_word (m := ⟨10, 5⟩) (meth := k10m5) (c := k10c5) (by decide +kernel) rfl rfl rfl (by decide +kernel)
set_option maxRecDepth 65536 in
theorem w_c11 : (Jvm.Cond.code ({ cls := "java/util/ArrayList", name := "<init>", desc := "()V" } : Jvm.MethodName) jdk_38_method_2_code (1 : Nat) (Option.none : Option Jvm.ClassFile.FieldType)).before args0 about1 = true := code_word (m := ⟨21, 0⟩) (meth := k21m0) (c := k21c0) (by decide +kernel) rfl rfl rfl (by decide +kernel)
set_option maxRecDepth 65536 in
theorem w_c12 : (Jvm.Cond.code ({ cls := "java/util/AbstractList", name := "<init>", desc := "()V" } : Jvm.MethodName) jdk_39_method_1_code (1 : Nat) (Option.none : Option Jvm.ClassFile.FieldType)).before args0 about1 = true := code_word (m := ⟨18, 0⟩) (meth := k18m0) (c := k18c0) (by decide +kernel) rfl rfl rfl (by decide +kernel)
set_option maxRecDepth 65536 in
theorem w_c13 : (Jvm.Cond.code ({ cls := "java/util/AbstractCollection", name := "<init>", desc := "()V" } : Jvm.MethodName) jdk_22_method_1_code (1 : Nat) (Option.none : Option Jvm.ClassFile.FieldType)).before args0 about1 = true := code_word (m := ⟨15, 0⟩) (meth := k15m0) (c := k15c0) (by decide +kernel) rfl rfl rfl (by decide +kernel)
set_option maxRecDepth 65536 in
theorem w_c14 : (Jvm.Cond.code ({ cls := "com/example/countersign/countersign/Parameter", name := "optional", desc := "(Ljava/lang/String;Lcom/example/countersign/countersign/Parameter$Kind;Ljava/lang/String;)Lcom/example/countersign/countersign/Parameter;" } : Jvm.MethodName) prog_6_method_3_code (3 : Nat) (Option.some (Jvm.ClassFile.FieldType.object "com/example/countersign/countersign/Parameter"))).before args0 about1 = true := code_word (m := ⟨23, 2⟩) (meth := k23m2) (c := k23c2) (by decide +kernel) rfl rfl rfl (by decide +kernel)
set_option maxRecDepth 65536 in
theorem w_c15 : (Jvm.Cond.code ({ cls := "java/util/List", name := "of", desc := "()Ljava/util/List;" } : Jvm.MethodName) jdk_40_method_36_code (0 : Nat) (Option.some (Jvm.ClassFile.FieldType.object "java/util/List"))).before args0 about1 = true := code_word (m := ⟨17, 3⟩) (meth := k17m3) (c := k17c3) (by decide +kernel) rfl rfl rfl (by decide +kernel)
set_option maxRecDepth 65536 in
theorem w_c16 : (Jvm.Cond.code ({ cls := "java/util/Optional", name := "empty", desc := "()Ljava/util/Optional;" } : Jvm.MethodName) jdk_32_method_1_code (1 : Nat) (Option.some (Jvm.ClassFile.FieldType.object "java/util/Optional"))).before args0 about1 = true := code_word (m := ⟨25, 0⟩) (meth := k25m0) (c := k25c0) (by decide +kernel) rfl rfl rfl (by decide +kernel)
set_option maxRecDepth 65536 in
theorem w_c17 : (Jvm.Cond.code ({ cls := "com/example/countersign/countersign/Parameter", name := "<init>", desc := "(Ljava/lang/String;Lcom/example/countersign/countersign/Parameter$Kind;ZLjava/lang/String;Ljava/util/List;ZLcom/example/countersign/countersign/Parameter$Role;Ljava/util/Optional;)V" } : Jvm.MethodName) prog_6_method_1_code (9 : Nat) (Option.none : Option Jvm.ClassFile.FieldType)).before args0 about1 = true := code_word (m := ⟨23, 0⟩) (meth := k23m0) (c := k23c0) (by decide +kernel) rfl rfl rfl (by decide +kernel)
set_option maxRecDepth 65536 in
theorem w_c18 : (Jvm.Cond.code ({ cls := "java/lang/Record", name := "<init>", desc := "()V" } : Jvm.MethodName) jdk_30_method_1_code (1 : Nat) (Option.none : Option Jvm.ClassFile.FieldType)).before args0 about1 = true := code_word (m := ⟨22, 0⟩) (meth := k22m0) (c := k22c0) (by decide +kernel) rfl rfl rfl (by decide +kernel)
set_option maxRecDepth 65536 in
theorem w_c19 : (Jvm.Cond.code ({ cls := "java/util/Objects", name := "requireNonNull", desc := "(Ljava/lang/Object;Ljava/lang/String;)Ljava/lang/Object;" } : Jvm.MethodName) jdk_31_method_11_code (2 : Nat) (Option.some (Jvm.ClassFile.FieldType.object "java/lang/Object"))).before args0 about1 = true := code_word (m := ⟨26, 2⟩) (meth := k26m2) (c := k26c2) (by decide +kernel) rfl rfl rfl (by decide +kernel)
set_option maxRecDepth 65536 in
theorem w_c20 : (Jvm.Cond.code ({ cls := "java/util/List", name := "copyOf", desc := "(Ljava/util/Collection;)Ljava/util/List;" } : Jvm.MethodName) jdk_40_method_48_code (1 : Nat) (Option.some (Jvm.ClassFile.FieldType.object "java/util/List"))).before args0 about1 = true := code_word (m := ⟨17, 5⟩) (meth := k17m5) (c := k17c5) (by decide +kernel) rfl rfl rfl (by decide +kernel)
set_option maxRecDepth 65536 in
theorem w_c21 : (Jvm.Cond.code ({ cls := "java/util/ImmutableCollections", name := "listCopy", desc := "(Ljava/util/Collection;)Ljava/util/List;" } : Jvm.MethodName) jdk_56_method_3_code (2 : Nat) (Option.some (Jvm.ClassFile.FieldType.object "java/util/List"))).before args0 about1 = true := code_word (m := ⟨24, 1⟩) (meth := k24m1) (c := k24c1) (by decide +kernel) rfl rfl rfl (by decide +kernel)
set_option maxRecDepth 65536 in
theorem w_c22 : (Jvm.Cond.code ({ cls := "java/util/ImmutableCollections$ListN", name := "isEmpty", desc := "()Z" } : Jvm.MethodName) jdk_45_method_2_code (1 : Nat) (Option.some Jvm.ClassFile.FieldType.boolean)).before args0 about1 = true := code_word (m := ⟨30, 1⟩) (meth := k30m1) (c := k30c1) (by decide +kernel) rfl rfl rfl (by decide +kernel)
set_option maxRecDepth 65536 in
theorem w_c23 : (Jvm.Cond.code ({ cls := "java/util/Optional", name := "isPresent", desc := "()Z" } : Jvm.MethodName) jdk_32_method_6_code (1 : Nat) (Option.some Jvm.ClassFile.FieldType.boolean)).before args0 about1 = true := code_word (m := ⟨25, 3⟩) (meth := k25m3) (c := k25c3) (by decide +kernel) rfl rfl rfl (by decide +kernel)
set_option maxRecDepth 65536 in
theorem w_c24 : (Jvm.Cond.code ({ cls := "com/example/countersign/countersign/Parameter", name := "as", desc := "(Lcom/example/countersign/countersign/Parameter$Role;)Lcom/example/countersign/countersign/Parameter;" } : Jvm.MethodName) prog_6_method_6_code (2 : Nat) (Option.some (Jvm.ClassFile.FieldType.object "com/example/countersign/countersign/Parameter"))).before args0 about1 = true := code_word (m := ⟨23, 5⟩) (meth := k23m5) (c := k23c5) (by decide +kernel) rfl rfl rfl (by decide +kernel)
set_option maxRecDepth 65536 in
theorem w_c25 : (Jvm.Cond.code ({ cls := "com/example/countersign/countersign/Parameter", name := "role", desc := "()Lcom/example/countersign/countersign/Parameter$Role;" } : Jvm.MethodName) prog_6_method_17_code (1 : Nat) (Option.some (Jvm.ClassFile.FieldType.object "com/example/countersign/countersign/Parameter$Role"))).before args0 about1 = true := code_word (m := ⟨23, 13⟩) (meth := k23m13) (c := k23c13) (by decide +kernel) rfl rfl rfl (by decide +kernel)
set_option maxRecDepth 65536 in
theorem w_c26 : (Jvm.Cond.code ({ cls := "com/example/countersign/countersign/Parameter", name := "name", desc := "()Ljava/lang/String;" } : Jvm.MethodName) prog_6_method_11_code (1 : Nat) (Option.some (Jvm.ClassFile.FieldType.object "java/lang/String"))).before args0 about1 = true := code_word (m := ⟨23, 7⟩) (meth := k23m7) (c := k23c7) (by decide +kernel) rfl rfl rfl (by decide +kernel)
set_option maxRecDepth 65536 in
theorem w_c27 : (Jvm.Cond.code ({ cls := "java/lang/String", name := "equals", desc := "(Ljava/lang/Object;)Z" } : Jvm.MethodName) jdk_42_method_66_code (3 : Nat) (Option.some Jvm.ClassFile.FieldType.boolean)).before args0 about1 = true := code_word (m := ⟨10, 2⟩) (meth := k10m2) (c := k10c2) (by decide +kernel) rfl rfl rfl (by decide +kernel)
set_option maxRecDepth 65536 in
theorem w_c28 : (Jvm.Cond.code ({ cls := "com/example/countersign/countersign/Parameter", name := "kind", desc := "()Lcom/example/countersign/countersign/Parameter$Kind;" } : Jvm.MethodName) prog_6_method_12_code (1 : Nat) (Option.some (Jvm.ClassFile.FieldType.object "com/example/countersign/countersign/Parameter$Kind"))).before args0 about1 = true := code_word (m := ⟨23, 8⟩) (meth := k23m8) (c := k23c8) (by decide +kernel) rfl rfl rfl (by decide +kernel)
set_option maxRecDepth 65536 in
theorem w_c29 : (Jvm.Cond.code ({ cls := "com/example/countersign/countersign/Parameter", name := "required", desc := "()Z" } : Jvm.MethodName) prog_6_method_13_code (1 : Nat) (Option.some Jvm.ClassFile.FieldType.boolean)).before args0 about1 = true := code_word (m := ⟨23, 9⟩) (meth := k23m9) (c := k23c9) (by decide +kernel) rfl rfl rfl (by decide +kernel)
set_option maxRecDepth 65536 in
theorem w_c30 : (Jvm.Cond.code ({ cls := "com/example/countersign/countersign/Parameter", name := "description", desc := "()Ljava/lang/String;" } : Jvm.MethodName) prog_6_method_14_code (1 : Nat) (Option.some (Jvm.ClassFile.FieldType.object "java/lang/String"))).before args0 about1 = true := code_word (m := ⟨23, 10⟩) (meth := k23m10) (c := k23c10) (by decide +kernel) rfl rfl rfl (by decide +kernel)
set_option maxRecDepth 65536 in
theorem w_c31 : (Jvm.Cond.code ({ cls := "com/example/countersign/countersign/Parameter", name := "wholeNumber", desc := "()Z" } : Jvm.MethodName) prog_6_method_16_code (1 : Nat) (Option.some Jvm.ClassFile.FieldType.boolean)).before args0 about1 = true := code_word (m := ⟨23, 12⟩) (meth := k23m12) (c := k23c12) (by decide +kernel) rfl rfl rfl (by decide +kernel)
set_option maxRecDepth 65536 in
theorem w_c32 : (Jvm.Cond.code ({ cls := "com/example/countersign/countersign/Parameter", name := "header", desc := "()Ljava/util/Optional;" } : Jvm.MethodName) prog_6_method_18_code (1 : Nat) (Option.some (Jvm.ClassFile.FieldType.object "java/util/Optional"))).before args0 about1 = true := code_word (m := ⟨23, 14⟩) (meth := k23m14) (c := k23c14) (by decide +kernel) rfl rfl rfl (by decide +kernel)
set_option maxRecDepth 65536 in
theorem w_c33 : (Jvm.Cond.code ({ cls := "java/util/Optional", name := "equals", desc := "(Ljava/lang/Object;)Z" } : Jvm.MethodName) jdk_32_method_19_code (3 : Nat) (Option.some Jvm.ClassFile.FieldType.boolean)).before args0 about1 = true := code_word (m := ⟨25, 4⟩) (meth := k25m4) (c := k25c4) (by decide +kernel) rfl rfl rfl (by decide +kernel)
set_option maxRecDepth 65536 in
theorem w_c34 : (Jvm.Cond.code ({ cls := "com/example/countersign/countersign/Parameter", name := "choices", desc := "()Ljava/util/List;" } : Jvm.MethodName) prog_6_method_15_code (1 : Nat) (Option.some (Jvm.ClassFile.FieldType.object "java/util/List"))).before args0 about1 = true := code_word (m := ⟨23, 11⟩) (meth := k23m11) (c := k23c11) (by decide +kernel) rfl rfl rfl (by decide +kernel)
set_option maxRecDepth 65536 in
theorem w_c35 : (Jvm.Cond.code ({ cls := "java/util/ImmutableCollections$ListN", name := "size", desc := "()I" } : Jvm.MethodName) jdk_45_method_3_code (1 : Nat) (Option.some Jvm.ClassFile.FieldType.int)).before args0 about1 = true := code_word (m := ⟨30, 2⟩) (meth := k30m2) (c := k30c2) (by decide +kernel) rfl rfl rfl (by decide +kernel)
set_option maxRecDepth 65536 in
theorem w_c36 : (Jvm.Cond.code ({ cls := "com/example/countersign/countersign/Parameter", name := "required", desc := "(Ljava/lang/String;Lcom/example/countersign/countersign/Parameter$Kind;Ljava/lang/String;)Lcom/example/countersign/countersign/Parameter;" } : Jvm.MethodName) prog_6_method_2_code (3 : Nat) (Option.some (Jvm.ClassFile.FieldType.object "com/example/countersign/countersign/Parameter"))).before args0 about1 = true := code_word (m := ⟨23, 1⟩) (meth := k23m1) (c := k23c1) (by decide +kernel) rfl rfl rfl (by decide +kernel)
set_option maxRecDepth 65536 in
theorem w_c37 : (Jvm.Cond.code ({ cls := "java/util/ArrayList", name := "add", desc := "(Ljava/lang/Object;)Z" } : Jvm.MethodName) jdk_38_method_25_code (2 : Nat) (Option.some Jvm.ClassFile.FieldType.boolean)).before args0 about1 = true := code_word (m := ⟨21, 6⟩) (meth := k21m6) (c := k21c6) (by decide +kernel) rfl rfl rfl (by decide +kernel)
set_option maxRecDepth 65536 in
theorem w_c38 : (Jvm.Cond.code ({ cls := "java/util/ArrayList", name := "add", desc := "(Ljava/lang/Object;[Ljava/lang/Object;I)V" } : Jvm.MethodName) jdk_38_method_24_code (4 : Nat) (Option.none : Option Jvm.ClassFile.FieldType)).before args0 about1 = true := code_word (m := ⟨21, 5⟩) (meth := k21m5) (c := k21c5) (by decide +kernel) rfl rfl rfl (by decide +kernel)
set_option maxRecDepth 65536 in
theorem w_c39 : (Jvm.Cond.code ({ cls := "java/util/ArrayList", name := "grow", desc := "()[Ljava/lang/Object;" } : Jvm.MethodName) jdk_38_method_7_code (1 : Nat) (Option.some (Jvm.ClassFile.FieldType.array (Jvm.ClassFile.FieldType.object "java/lang/Object")))).before args0 about1 = true := code_word (m := ⟨21, 2⟩) (meth := k21m2) (c := k21c2) (by decide +kernel) rfl rfl rfl (by decide +kernel)
set_option maxRecDepth 65536 in
theorem w_c40 : (Jvm.Cond.code ({ cls := "java/util/ArrayList", name := "grow", desc := "(I)[Ljava/lang/Object;" } : Jvm.MethodName) jdk_38_method_6_code (4 : Nat) (Option.some (Jvm.ClassFile.FieldType.array (Jvm.ClassFile.FieldType.object "java/lang/Object")))).before args0 about1 = true := code_word (m := ⟨21, 1⟩) (meth := k21m1) (c := k21c1) (by decide +kernel) rfl rfl rfl (by decide +kernel)
set_option maxRecDepth 65536 in
theorem w_c41 : (Jvm.Cond.code ({ cls := "java/lang/Math", name := "max", desc := "(II)I" } : Jvm.MethodName) jdk_29_method_65_code (2 : Nat) (Option.some Jvm.ClassFile.FieldType.int)).before args0 about1 = true := code_word (m := ⟨31, 1⟩) (meth := k31m1) (c := k31c1) (by decide +kernel) rfl rfl rfl (by decide +kernel)
set_option maxRecDepth 65536 in
theorem w_c42 : (Jvm.Cond.code ({ cls := "com/example/countersign/countersign/Parameter", name := "withChoices", desc := "(Ljava/util/List;)Lcom/example/countersign/countersign/Parameter;" } : Jvm.MethodName) prog_6_method_4_code (2 : Nat) (Option.some (Jvm.ClassFile.FieldType.object "com/example/countersign/countersign/Parameter"))).before args0 about1 = true := code_word (m := ⟨23, 3⟩) (meth := k23m3) (c := k23c3) (by decide +kernel) rfl rfl rfl (by decide +kernel)
set_option maxRecDepth 65536 in
theorem w_c43 : (Jvm.Cond.code ({ cls := "java/util/ArrayList", name := "isEmpty", desc := "()Z" } : Jvm.MethodName) jdk_38_method_9_code (1 : Nat) (Option.some Jvm.ClassFile.FieldType.boolean)).before args0 about1 = true := code_word (m := ⟨21, 3⟩) (meth := k21m3) (c := k21c3) (by decide +kernel) rfl rfl rfl (by decide +kernel)
set_option maxRecDepth 65536 in
theorem w_c44 : (Jvm.Cond.code ({ cls := "java/util/ArrayList", name := "toArray", desc := "()[Ljava/lang/Object;" } : Jvm.MethodName) jdk_38_method_16_code (1 : Nat) (Option.some (Jvm.ClassFile.FieldType.array (Jvm.ClassFile.FieldType.object "java/lang/Object")))).before args0 about1 = true := code_word (m := ⟨21, 4⟩) (meth := k21m4) (c := k21c4) (by decide +kernel) rfl rfl rfl (by decide +kernel)
set_option maxRecDepth 65536 in
theorem w_c45 : (Jvm.Cond.code ({ cls := "java/util/Arrays", name := "copyOf", desc := "([Ljava/lang/Object;I)[Ljava/lang/Object;" } : Jvm.MethodName) jdk_65_method_119_code (2 : Nat) (Option.some (Jvm.ClassFile.FieldType.array (Jvm.ClassFile.FieldType.object "java/lang/Object")))).before args0 about1 = true := code_word (m := ⟨32, 1⟩) (meth := k32m1) (c := k32c1) (by decide +kernel) rfl rfl rfl (by decide +kernel)
set_option maxRecDepth 65536 in
theorem w_c46 : (Jvm.Cond.code ({ cls := "java/util/Arrays", name := "copyOf", desc := "([Ljava/lang/Object;ILjava/lang/Class;)[Ljava/lang/Object;" } : Jvm.MethodName) jdk_65_method_120_code (4 : Nat) (Option.some (Jvm.ClassFile.FieldType.array (Jvm.ClassFile.FieldType.object "java/lang/Object")))).before args0 about1 = true := code_word (m := ⟨32, 2⟩) (meth := k32m2) (c := k32c2) (by decide +kernel) rfl rfl rfl (by decide +kernel)
set_option maxRecDepth 65536 in
theorem w_c47 : (Jvm.Cond.code ({ cls := "java/lang/Math", name := "min", desc := "(II)I" } : Jvm.MethodName) jdk_29_method_69_code (2 : Nat) (Option.some Jvm.ClassFile.FieldType.int)).before args0 about1 = true := code_word (m := ⟨31, 2⟩) (meth := k31m2) (c := k31c2) (by decide +kernel) rfl rfl rfl (by decide +kernel)
set_option maxRecDepth 65536 in
theorem w_c48 : (Jvm.Cond.code ({ cls := "java/util/List", name := "of", desc := "([Ljava/lang/Object;)Ljava/util/List;" } : Jvm.MethodName) jdk_40_method_47_code (2 : Nat) (Option.some (Jvm.ClassFile.FieldType.object "java/util/List"))).before args0 about1 = true := code_word (m := ⟨17, 4⟩) (meth := k17m4) (c := k17c4) (by decide +kernel) rfl rfl rfl (by decide +kernel)
set_option maxRecDepth 65536 in
theorem w_c49 : (Jvm.Cond.code ({ cls := "java/util/ImmutableCollections", name := "listFromArray", desc := "([Ljava/lang/Object;)Ljava/util/List;" } : Jvm.MethodName) jdk_56_method_4_code (3 : Nat) (Option.some (Jvm.ClassFile.FieldType.object "java/util/List"))).before args0 about1 = true := code_word (m := ⟨24, 2⟩) (meth := k24m2) (c := k24c2) (by decide +kernel) rfl rfl rfl (by decide +kernel)
set_option maxRecDepth 65536 in
theorem w_c50 : (Jvm.Cond.code ({ cls := "java/util/Objects", name := "requireNonNull", desc := "(Ljava/lang/Object;)Ljava/lang/Object;" } : Jvm.MethodName) jdk_31_method_10_code (1 : Nat) (Option.some (Jvm.ClassFile.FieldType.object "java/lang/Object"))).before args0 about1 = true := code_word (m := ⟨26, 1⟩) (meth := k26m1) (c := k26c1) (by decide +kernel) rfl rfl rfl (by decide +kernel)
set_option maxRecDepth 65536 in
theorem w_c51 : (Jvm.Cond.code ({ cls := "java/util/ImmutableCollections$ListN", name := "<init>", desc := "([Ljava/lang/Object;Z)V" } : Jvm.MethodName) jdk_45_method_1_code (3 : Nat) (Option.none : Option Jvm.ClassFile.FieldType)).before args0 about1 = true := code_word (m := ⟨30, 0⟩) (meth := k30m0) (c := k30c0) (by decide +kernel) rfl rfl rfl (by decide +kernel)
set_option maxRecDepth 65536 in
theorem w_c52 : (Jvm.Cond.code ({ cls := "java/util/ImmutableCollections$AbstractImmutableList", name := "<init>", desc := "()V" } : Jvm.MethodName) jdk_46_method_1_code (1 : Nat) (Option.none : Option Jvm.ClassFile.FieldType)).before args0 about1 = true := code_word (m := ⟨28, 0⟩) (meth := k28m0) (c := k28c0) (by decide +kernel) rfl rfl rfl (by decide +kernel)
set_option maxRecDepth 65536 in
theorem w_c53 : (Jvm.Cond.code ({ cls := "java/util/ImmutableCollections$AbstractImmutableCollection", name := "<init>", desc := "()V" } : Jvm.MethodName) jdk_47_method_1_code (1 : Nat) (Option.none : Option Jvm.ClassFile.FieldType)).before args0 about1 = true := code_word (m := ⟨27, 0⟩) (meth := k27m0) (c := k27c0) (by decide +kernel) rfl rfl rfl (by decide +kernel)
set_option maxRecDepth 65536 in
theorem w_c54 : (Jvm.Cond.code ({ cls := "java/util/ImmutableCollections$ListN", name := "get", desc := "(I)Ljava/lang/Object;" } : Jvm.MethodName) jdk_45_method_4_code (2 : Nat) (Option.some (Jvm.ClassFile.FieldType.object "java/lang/Object"))).before args0 about1 = true := code_word (m := ⟨30, 3⟩) (meth := k30m3) (c := k30c3) (by decide +kernel) rfl rfl rfl (by decide +kernel)
set_option maxRecDepth 65536 in
theorem w_c55 : (Jvm.Cond.code ({ cls := "com/example/countersign/countersign/Parameter", name := "asWholeNumber", desc := "()Lcom/example/countersign/countersign/Parameter;" } : Jvm.MethodName) prog_6_method_5_code (1 : Nat) (Option.some (Jvm.ClassFile.FieldType.object "com/example/countersign/countersign/Parameter"))).before args0 about1 = true := code_word (m := ⟨23, 4⟩) (meth := k23m4) (c := k23c4) (by decide +kernel) rfl rfl rfl (by decide +kernel)
set_option maxRecDepth 65536 in
theorem w_c56 : (Jvm.Cond.code ({ cls := "com/example/countersign/countersign/Parameter", name := "sentAs", desc := "(Ljava/lang/String;)Lcom/example/countersign/countersign/Parameter;" } : Jvm.MethodName) prog_6_method_7_code (2 : Nat) (Option.some (Jvm.ClassFile.FieldType.object "com/example/countersign/countersign/Parameter"))).before args0 about1 = true := code_word (m := ⟨23, 6⟩) (meth := k23m6) (c := k23c6) (by decide +kernel) rfl rfl rfl (by decide +kernel)
set_option maxRecDepth 65536 in
theorem w_c57 : (Jvm.Cond.code ({ cls := "java/util/Optional", name := "of", desc := "(Ljava/lang/Object;)Ljava/util/Optional;" } : Jvm.MethodName) jdk_32_method_3_code (1 : Nat) (Option.some (Jvm.ClassFile.FieldType.object "java/util/Optional"))).before args0 about1 = true := code_word (m := ⟨25, 2⟩) (meth := k25m2) (c := k25c2) (by decide +kernel) rfl rfl rfl (by decide +kernel)
set_option maxRecDepth 65536 in
theorem w_c58 : (Jvm.Cond.code ({ cls := "java/util/Optional", name := "<init>", desc := "(Ljava/lang/Object;)V" } : Jvm.MethodName) jdk_32_method_2_code (2 : Nat) (Option.none : Option Jvm.ClassFile.FieldType)).before args0 about1 = true := code_word (m := ⟨25, 1⟩) (meth := k25m1) (c := k25c1) (by decide +kernel) rfl rfl rfl (by decide +kernel)
set_option maxRecDepth 65536 in
theorem w_c59 : (Jvm.Cond.code ({ cls := "java/util/ImmutableCollections$List12", name := "<init>", desc := "(Ljava/lang/Object;Ljava/lang/Object;)V" } : Jvm.MethodName) jdk_44_method_2_code (3 : Nat) (Option.none : Option Jvm.ClassFile.FieldType)).before args0 about1 = true := code_word (m := ⟨29, 1⟩) (meth := k29m1) (c := k29c1) (by decide +kernel) rfl rfl rfl (by decide +kernel)
set_option maxRecDepth 65536 in
theorem w_c60 : (Jvm.Cond.code ({ cls := "java/util/ImmutableCollections$List12", name := "isEmpty", desc := "()Z" } : Jvm.MethodName) jdk_44_method_4_code (1 : Nat) (Option.some Jvm.ClassFile.FieldType.boolean)).before args0 about1 = true := code_word (m := ⟨29, 3⟩) (meth := k29m3) (c := k29c3) (by decide +kernel) rfl rfl rfl (by decide +kernel)
set_option maxRecDepth 65536 in
theorem w_c61 : (Jvm.Cond.code ({ cls := "java/util/ImmutableCollections$List12", name := "size", desc := "()I" } : Jvm.MethodName) jdk_44_method_3_code (1 : Nat) (Option.some Jvm.ClassFile.FieldType.int)).before args0 about1 = true := code_word (m := ⟨29, 2⟩) (meth := k29m2) (c := k29c2) (by decide +kernel) rfl rfl rfl (by decide +kernel)
set_option maxRecDepth 65536 in
theorem w_c62 : (Jvm.Cond.code ({ cls := "java/util/ImmutableCollections$List12", name := "get", desc := "(I)Ljava/lang/Object;" } : Jvm.MethodName) jdk_44_method_5_code (2 : Nat) (Option.some (Jvm.ClassFile.FieldType.object "java/lang/Object"))).before args0 about1 = true := code_word (m := ⟨29, 4⟩) (meth := k29m4) (c := k29c4) (by decide +kernel) rfl rfl rfl (by decide +kernel)
set_option maxRecDepth 65536 in
theorem w_c63 : (Jvm.Cond.code ({ cls := "java/util/ImmutableCollections$List12", name := "<init>", desc := "(Ljava/lang/Object;)V" } : Jvm.MethodName) jdk_44_method_1_code (2 : Nat) (Option.none : Option Jvm.ClassFile.FieldType)).before args0 about1 = true := code_word (m := ⟨29, 0⟩) (meth := k29m0) (c := k29c0) (by decide +kernel) rfl rfl rfl (by decide +kernel)
def codes1 : List Jvm.Cond := [Jvm.Cond.code x code maxLocals ret, Jvm.Cond.code ({ cls := "java/lang/String", name := "<init>", desc := "([C)V" } : Jvm.MethodName) jdk_42_method_3_code (2 : Nat) (Option.none : Option Jvm.ClassFile.FieldType), Jvm.Cond.code ({ cls := "java/lang/String", name := "<init>", desc := "([CIILjava/lang/Void;)V" } : Jvm.MethodName) jdk_42_method_149_code (6 : Nat) (Option.none : Option Jvm.ClassFile.FieldType), Jvm.Cond.code ({ cls := "java/lang/Object", name := "<init>", desc := "()V" } : Jvm.MethodName) object_method_1_code (1 : Nat) (Option.none : Option Jvm.ClassFile.FieldType), Jvm.Cond.code ({ cls := "java/lang/StringUTF16", name := "compress", desc := "([CII)[B" } : Jvm.MethodName) jdk_52_method_16_code (6 : Nat) (Option.some (Jvm.ClassFile.FieldType.array Jvm.ClassFile.FieldType.byte)), Jvm.Cond.code ({ cls := "java/lang/StringUTF16", name := "compress", desc := "([CI[BII)I" } : Jvm.MethodName) jdk_52_method_21_code (7 : Nat) (Option.some Jvm.ClassFile.FieldType.int), Jvm.Cond.code ({ cls := "java/lang/StringUTF16", name := "coderFromArrayLen", desc := "([BI)B" } : Jvm.MethodName) jdk_52_method_15_code (2 : Nat) (Option.some Jvm.ClassFile.FieldType.byte), Jvm.Cond.code ({ cls := "java/lang/String", name := "valueOf", desc := "(C)Ljava/lang/String;" } : Jvm.MethodName) jdk_42_method_139_code (1 : Nat) (Option.some (Jvm.ClassFile.FieldType.object "java/lang/String")), Jvm.Cond.code ({ cls := "java/lang/StringLatin1", name := "canEncode", desc := "(C)Z" } : Jvm.MethodName) jdk_43_method_3_code (1 : Nat) (Option.some Jvm.ClassFile.FieldType.boolean), Jvm.Cond.code ({ cls := "java/lang/StringLatin1", name := "toBytes", desc := "(C)[B" } : Jvm.MethodName) jdk_43_method_46_code (1 : Nat) (Option.some (Jvm.ClassFile.FieldType.array Jvm.ClassFile.FieldType.byte)), Jvm.Cond.code ({ cls := "java/lang/String", name := "<init>", desc := "([BB)V" } : Jvm.MethodName) jdk_42_method_151_code (3 : Nat) (Option.none : Option Jvm.ClassFile.FieldType), Jvm.Cond.code ({ cls := "java/util/ArrayList", name := "<init>", desc := "()V" } : Jvm.MethodName) jdk_38_method_2_code (1 : Nat) (Option.none : Option Jvm.ClassFile.FieldType), Jvm.Cond.code ({ cls := "java/util/AbstractList", name := "<init>", desc := "()V" } : Jvm.MethodName) jdk_39_method_1_code (1 : Nat) (Option.none : Option Jvm.ClassFile.FieldType), Jvm.Cond.code ({ cls := "java/util/AbstractCollection", name := "<init>", desc := "()V" } : Jvm.MethodName) jdk_22_method_1_code (1 : Nat) (Option.none : Option Jvm.ClassFile.FieldType), Jvm.Cond.code ({ cls := "com/example/countersign/countersign/Parameter", name := "optional", desc := "(Ljava/lang/String;Lcom/example/countersign/countersign/Parameter$Kind;Ljava/lang/String;)Lcom/example/countersign/countersign/Parameter;" } : Jvm.MethodName) prog_6_method_3_code (3 : Nat) (Option.some (Jvm.ClassFile.FieldType.object "com/example/countersign/countersign/Parameter")), Jvm.Cond.code ({ cls := "java/util/List", name := "of", desc := "()Ljava/util/List;" } : Jvm.MethodName) jdk_40_method_36_code (0 : Nat) (Option.some (Jvm.ClassFile.FieldType.object "java/util/List")), Jvm.Cond.code ({ cls := "java/util/Optional", name := "empty", desc := "()Ljava/util/Optional;" } : Jvm.MethodName) jdk_32_method_1_code (1 : Nat) (Option.some (Jvm.ClassFile.FieldType.object "java/util/Optional")), Jvm.Cond.code ({ cls := "com/example/countersign/countersign/Parameter", name := "<init>", desc := "(Ljava/lang/String;Lcom/example/countersign/countersign/Parameter$Kind;ZLjava/lang/String;Ljava/util/List;ZLcom/example/countersign/countersign/Parameter$Role;Ljava/util/Optional;)V" } : Jvm.MethodName) prog_6_method_1_code (9 : Nat) (Option.none : Option Jvm.ClassFile.FieldType), Jvm.Cond.code ({ cls := "java/lang/Record", name := "<init>", desc := "()V" } : Jvm.MethodName) jdk_30_method_1_code (1 : Nat) (Option.none : Option Jvm.ClassFile.FieldType), Jvm.Cond.code ({ cls := "java/util/Objects", name := "requireNonNull", desc := "(Ljava/lang/Object;Ljava/lang/String;)Ljava/lang/Object;" } : Jvm.MethodName) jdk_31_method_11_code (2 : Nat) (Option.some (Jvm.ClassFile.FieldType.object "java/lang/Object")), Jvm.Cond.code ({ cls := "java/util/List", name := "copyOf", desc := "(Ljava/util/Collection;)Ljava/util/List;" } : Jvm.MethodName) jdk_40_method_48_code (1 : Nat) (Option.some (Jvm.ClassFile.FieldType.object "java/util/List")), Jvm.Cond.code ({ cls := "java/util/ImmutableCollections", name := "listCopy", desc := "(Ljava/util/Collection;)Ljava/util/List;" } : Jvm.MethodName) jdk_56_method_3_code (2 : Nat) (Option.some (Jvm.ClassFile.FieldType.object "java/util/List")), Jvm.Cond.code ({ cls := "java/util/ImmutableCollections$ListN", name := "isEmpty", desc := "()Z" } : Jvm.MethodName) jdk_45_method_2_code (1 : Nat) (Option.some Jvm.ClassFile.FieldType.boolean), Jvm.Cond.code ({ cls := "java/util/Optional", name := "isPresent", desc := "()Z" } : Jvm.MethodName) jdk_32_method_6_code (1 : Nat) (Option.some Jvm.ClassFile.FieldType.boolean), Jvm.Cond.code ({ cls := "com/example/countersign/countersign/Parameter", name := "as", desc := "(Lcom/example/countersign/countersign/Parameter$Role;)Lcom/example/countersign/countersign/Parameter;" } : Jvm.MethodName) prog_6_method_6_code (2 : Nat) (Option.some (Jvm.ClassFile.FieldType.object "com/example/countersign/countersign/Parameter")), Jvm.Cond.code ({ cls := "com/example/countersign/countersign/Parameter", name := "role", desc := "()Lcom/example/countersign/countersign/Parameter$Role;" } : Jvm.MethodName) prog_6_method_17_code (1 : Nat) (Option.some (Jvm.ClassFile.FieldType.object "com/example/countersign/countersign/Parameter$Role")), Jvm.Cond.code ({ cls := "com/example/countersign/countersign/Parameter", name := "name", desc := "()Ljava/lang/String;" } : Jvm.MethodName) prog_6_method_11_code (1 : Nat) (Option.some (Jvm.ClassFile.FieldType.object "java/lang/String")), Jvm.Cond.code ({ cls := "java/lang/String", name := "equals", desc := "(Ljava/lang/Object;)Z" } : Jvm.MethodName) jdk_42_method_66_code (3 : Nat) (Option.some Jvm.ClassFile.FieldType.boolean), Jvm.Cond.code ({ cls := "com/example/countersign/countersign/Parameter", name := "kind", desc := "()Lcom/example/countersign/countersign/Parameter$Kind;" } : Jvm.MethodName) prog_6_method_12_code (1 : Nat) (Option.some (Jvm.ClassFile.FieldType.object "com/example/countersign/countersign/Parameter$Kind")), Jvm.Cond.code ({ cls := "com/example/countersign/countersign/Parameter", name := "required", desc := "()Z" } : Jvm.MethodName) prog_6_method_13_code (1 : Nat) (Option.some Jvm.ClassFile.FieldType.boolean), Jvm.Cond.code ({ cls := "com/example/countersign/countersign/Parameter", name := "description", desc := "()Ljava/lang/String;" } : Jvm.MethodName) prog_6_method_14_code (1 : Nat) (Option.some (Jvm.ClassFile.FieldType.object "java/lang/String")), Jvm.Cond.code ({ cls := "com/example/countersign/countersign/Parameter", name := "wholeNumber", desc := "()Z" } : Jvm.MethodName) prog_6_method_16_code (1 : Nat) (Option.some Jvm.ClassFile.FieldType.boolean), Jvm.Cond.code ({ cls := "com/example/countersign/countersign/Parameter", name := "header", desc := "()Ljava/util/Optional;" } : Jvm.MethodName) prog_6_method_18_code (1 : Nat) (Option.some (Jvm.ClassFile.FieldType.object "java/util/Optional")), Jvm.Cond.code ({ cls := "java/util/Optional", name := "equals", desc := "(Ljava/lang/Object;)Z" } : Jvm.MethodName) jdk_32_method_19_code (3 : Nat) (Option.some Jvm.ClassFile.FieldType.boolean), Jvm.Cond.code ({ cls := "com/example/countersign/countersign/Parameter", name := "choices", desc := "()Ljava/util/List;" } : Jvm.MethodName) prog_6_method_15_code (1 : Nat) (Option.some (Jvm.ClassFile.FieldType.object "java/util/List")), Jvm.Cond.code ({ cls := "java/util/ImmutableCollections$ListN", name := "size", desc := "()I" } : Jvm.MethodName) jdk_45_method_3_code (1 : Nat) (Option.some Jvm.ClassFile.FieldType.int), Jvm.Cond.code ({ cls := "com/example/countersign/countersign/Parameter", name := "required", desc := "(Ljava/lang/String;Lcom/example/countersign/countersign/Parameter$Kind;Ljava/lang/String;)Lcom/example/countersign/countersign/Parameter;" } : Jvm.MethodName) prog_6_method_2_code (3 : Nat) (Option.some (Jvm.ClassFile.FieldType.object "com/example/countersign/countersign/Parameter")), Jvm.Cond.code ({ cls := "java/util/ArrayList", name := "add", desc := "(Ljava/lang/Object;)Z" } : Jvm.MethodName) jdk_38_method_25_code (2 : Nat) (Option.some Jvm.ClassFile.FieldType.boolean), Jvm.Cond.code ({ cls := "java/util/ArrayList", name := "add", desc := "(Ljava/lang/Object;[Ljava/lang/Object;I)V" } : Jvm.MethodName) jdk_38_method_24_code (4 : Nat) (Option.none : Option Jvm.ClassFile.FieldType), Jvm.Cond.code ({ cls := "java/util/ArrayList", name := "grow", desc := "()[Ljava/lang/Object;" } : Jvm.MethodName) jdk_38_method_7_code (1 : Nat) (Option.some (Jvm.ClassFile.FieldType.array (Jvm.ClassFile.FieldType.object "java/lang/Object"))), Jvm.Cond.code ({ cls := "java/util/ArrayList", name := "grow", desc := "(I)[Ljava/lang/Object;" } : Jvm.MethodName) jdk_38_method_6_code (4 : Nat) (Option.some (Jvm.ClassFile.FieldType.array (Jvm.ClassFile.FieldType.object "java/lang/Object"))), Jvm.Cond.code ({ cls := "java/lang/Math", name := "max", desc := "(II)I" } : Jvm.MethodName) jdk_29_method_65_code (2 : Nat) (Option.some Jvm.ClassFile.FieldType.int), Jvm.Cond.code ({ cls := "com/example/countersign/countersign/Parameter", name := "withChoices", desc := "(Ljava/util/List;)Lcom/example/countersign/countersign/Parameter;" } : Jvm.MethodName) prog_6_method_4_code (2 : Nat) (Option.some (Jvm.ClassFile.FieldType.object "com/example/countersign/countersign/Parameter")), Jvm.Cond.code ({ cls := "java/util/ArrayList", name := "isEmpty", desc := "()Z" } : Jvm.MethodName) jdk_38_method_9_code (1 : Nat) (Option.some Jvm.ClassFile.FieldType.boolean), Jvm.Cond.code ({ cls := "java/util/ArrayList", name := "toArray", desc := "()[Ljava/lang/Object;" } : Jvm.MethodName) jdk_38_method_16_code (1 : Nat) (Option.some (Jvm.ClassFile.FieldType.array (Jvm.ClassFile.FieldType.object "java/lang/Object"))), Jvm.Cond.code ({ cls := "java/util/Arrays", name := "copyOf", desc := "([Ljava/lang/Object;I)[Ljava/lang/Object;" } : Jvm.MethodName) jdk_65_method_119_code (2 : Nat) (Option.some (Jvm.ClassFile.FieldType.array (Jvm.ClassFile.FieldType.object "java/lang/Object"))), Jvm.Cond.code ({ cls := "java/util/Arrays", name := "copyOf", desc := "([Ljava/lang/Object;ILjava/lang/Class;)[Ljava/lang/Object;" } : Jvm.MethodName) jdk_65_method_120_code (4 : Nat) (Option.some (Jvm.ClassFile.FieldType.array (Jvm.ClassFile.FieldType.object "java/lang/Object"))), Jvm.Cond.code ({ cls := "java/lang/Math", name := "min", desc := "(II)I" } : Jvm.MethodName) jdk_29_method_69_code (2 : Nat) (Option.some Jvm.ClassFile.FieldType.int), Jvm.Cond.code ({ cls := "java/util/List", name := "of", desc := "([Ljava/lang/Object;)Ljava/util/List;" } : Jvm.MethodName) jdk_40_method_47_code (2 : Nat) (Option.some (Jvm.ClassFile.FieldType.object "java/util/List")), Jvm.Cond.code ({ cls := "java/util/ImmutableCollections", name := "listFromArray", desc := "([Ljava/lang/Object;)Ljava/util/List;" } : Jvm.MethodName) jdk_56_method_4_code (3 : Nat) (Option.some (Jvm.ClassFile.FieldType.object "java/util/List")), Jvm.Cond.code ({ cls := "java/util/Objects", name := "requireNonNull", desc := "(Ljava/lang/Object;)Ljava/lang/Object;" } : Jvm.MethodName) jdk_31_method_10_code (1 : Nat) (Option.some (Jvm.ClassFile.FieldType.object "java/lang/Object")), Jvm.Cond.code ({ cls := "java/util/ImmutableCollections$ListN", name := "<init>", desc := "([Ljava/lang/Object;Z)V" } : Jvm.MethodName) jdk_45_method_1_code (3 : Nat) (Option.none : Option Jvm.ClassFile.FieldType), Jvm.Cond.code ({ cls := "java/util/ImmutableCollections$AbstractImmutableList", name := "<init>", desc := "()V" } : Jvm.MethodName) jdk_46_method_1_code (1 : Nat) (Option.none : Option Jvm.ClassFile.FieldType), Jvm.Cond.code ({ cls := "java/util/ImmutableCollections$AbstractImmutableCollection", name := "<init>", desc := "()V" } : Jvm.MethodName) jdk_47_method_1_code (1 : Nat) (Option.none : Option Jvm.ClassFile.FieldType), Jvm.Cond.code ({ cls := "java/util/ImmutableCollections$ListN", name := "get", desc := "(I)Ljava/lang/Object;" } : Jvm.MethodName) jdk_45_method_4_code (2 : Nat) (Option.some (Jvm.ClassFile.FieldType.object "java/lang/Object")), Jvm.Cond.code ({ cls := "com/example/countersign/countersign/Parameter", name := "asWholeNumber", desc := "()Lcom/example/countersign/countersign/Parameter;" } : Jvm.MethodName) prog_6_method_5_code (1 : Nat) (Option.some (Jvm.ClassFile.FieldType.object "com/example/countersign/countersign/Parameter")), Jvm.Cond.code ({ cls := "com/example/countersign/countersign/Parameter", name := "sentAs", desc := "(Ljava/lang/String;)Lcom/example/countersign/countersign/Parameter;" } : Jvm.MethodName) prog_6_method_7_code (2 : Nat) (Option.some (Jvm.ClassFile.FieldType.object "com/example/countersign/countersign/Parameter")), Jvm.Cond.code ({ cls := "java/util/Optional", name := "of", desc := "(Ljava/lang/Object;)Ljava/util/Optional;" } : Jvm.MethodName) jdk_32_method_3_code (1 : Nat) (Option.some (Jvm.ClassFile.FieldType.object "java/util/Optional")), Jvm.Cond.code ({ cls := "java/util/Optional", name := "<init>", desc := "(Ljava/lang/Object;)V" } : Jvm.MethodName) jdk_32_method_2_code (2 : Nat) (Option.none : Option Jvm.ClassFile.FieldType), Jvm.Cond.code ({ cls := "java/util/ImmutableCollections$List12", name := "<init>", desc := "(Ljava/lang/Object;Ljava/lang/Object;)V" } : Jvm.MethodName) jdk_44_method_2_code (3 : Nat) (Option.none : Option Jvm.ClassFile.FieldType), Jvm.Cond.code ({ cls := "java/util/ImmutableCollections$List12", name := "isEmpty", desc := "()Z" } : Jvm.MethodName) jdk_44_method_4_code (1 : Nat) (Option.some Jvm.ClassFile.FieldType.boolean), Jvm.Cond.code ({ cls := "java/util/ImmutableCollections$List12", name := "size", desc := "()I" } : Jvm.MethodName) jdk_44_method_3_code (1 : Nat) (Option.some Jvm.ClassFile.FieldType.int), Jvm.Cond.code ({ cls := "java/util/ImmutableCollections$List12", name := "get", desc := "(I)Ljava/lang/Object;" } : Jvm.MethodName) jdk_44_method_5_code (2 : Nat) (Option.some (Jvm.ClassFile.FieldType.object "java/lang/Object")), Jvm.Cond.code ({ cls := "java/util/ImmutableCollections$List12", name := "<init>", desc := "(Ljava/lang/Object;)V" } : Jvm.MethodName) jdk_44_method_1_code (2 : Nat) (Option.none : Option Jvm.ClassFile.FieldType)]
set_option maxRecDepth 65536 in
theorem codes_eq : words1.filter isCode = codes1 := rfl
theorem w_codes : ∀ c ∈ words1.filter isCode, c.before args0 about1 = true := by
  rw [codes_eq]
  intro c hc
  simp only [codes1, List.mem_cons, List.not_mem_nil, or_false] at hc
  rcases hc with rfl | rfl | rfl | rfl | rfl | rfl | rfl | rfl | rfl | rfl | rfl | rfl | rfl | rfl | rfl | rfl | rfl | rfl | rfl | rfl | rfl | rfl | rfl | rfl | rfl | rfl | rfl | rfl | rfl | rfl | rfl | rfl | rfl | rfl | rfl | rfl | rfl | rfl | rfl | rfl | rfl | rfl | rfl | rfl | rfl | rfl | rfl | rfl | rfl | rfl | rfl | rfl | rfl | rfl | rfl | rfl | rfl | rfl | rfl | rfl | rfl | rfl | rfl | rfl
  · exact w_c0
  · exact w_c1
  · exact w_c2
  · exact w_c3
  · exact w_c4
  · exact w_c5
  · exact w_c6
  · exact w_c7
  · exact w_c8
  · exact w_c9
  · exact w_c10
  · exact w_c11
  · exact w_c12
  · exact w_c13
  · exact w_c14
  · exact w_c15
  · exact w_c16
  · exact w_c17
  · exact w_c18
  · exact w_c19
  · exact w_c20
  · exact w_c21
  · exact w_c22
  · exact w_c23
  · exact w_c24
  · exact w_c25
  · exact w_c26
  · exact w_c27
  · exact w_c28
  · exact w_c29
  · exact w_c30
  · exact w_c31
  · exact w_c32
  · exact w_c33
  · exact w_c34
  · exact w_c35
  · exact w_c36
  · exact w_c37
  · exact w_c38
  · exact w_c39
  · exact w_c40
  · exact w_c41
  · exact w_c42
  · exact w_c43
  · exact w_c44
  · exact w_c45
  · exact w_c46
  · exact w_c47
  · exact w_c48
  · exact w_c49
  · exact w_c50
  · exact w_c51
  · exact w_c52
  · exact w_c53
  · exact w_c54
  · exact w_c55
  · exact w_c56
  · exact w_c57
  · exact w_c58
  · exact w_c59
  · exact w_c60
  · exact w_c61
  · exact w_c62
  · exact w_c63
set_option maxRecDepth 65536 in
theorem w_t1 : (words1.take 24).all (fun c => isCode c || c.before args0 about1) = true := by decide +kernel
set_option maxRecDepth 65536 in
theorem w_t2 : ((words1.drop 24).take 24).all (fun c => isCode c || c.before args0 about1) = true := by decide +kernel
set_option maxRecDepth 65536 in
theorem w_t3 : (((words1.drop 24).drop 24).take 24).all (fun c => isCode c || c.before args0 about1) = true := by decide +kernel
set_option maxRecDepth 65536 in
theorem w_t4 : ((((words1.drop 24).drop 24).drop 24).take 24).all (fun c => isCode c || c.before args0 about1) = true := by decide +kernel
set_option maxRecDepth 65536 in
theorem w_t5 : (((((words1.drop 24).drop 24).drop 24).drop 24).take 24).all (fun c => isCode c || c.before args0 about1) = true := by decide +kernel
set_option maxRecDepth 65536 in
theorem w_t6 : ((((((words1.drop 24).drop 24).drop 24).drop 24).drop 24).take 24).all (fun c => isCode c || c.before args0 about1) = true := by decide +kernel
set_option maxRecDepth 65536 in
theorem w_t7 : (((((((words1.drop 24).drop 24).drop 24).drop 24).drop 24).drop 24).take 24).all (fun c => isCode c || c.before args0 about1) = true := by decide +kernel
set_option maxRecDepth 65536 in
theorem w_t8 : ((((((((words1.drop 24).drop 24).drop 24).drop 24).drop 24).drop 24).drop 24).take 24).all (fun c => isCode c || c.before args0 about1) = true := by decide +kernel
set_option maxRecDepth 65536 in
theorem w_t9 : (((((((((words1.drop 24).drop 24).drop 24).drop 24).drop 24).drop 24).drop 24).drop 24).take 24).all (fun c => isCode c || c.before args0 about1) = true := by decide +kernel
set_option maxRecDepth 65536 in
theorem w_t10 : ((((((((((words1.drop 24).drop 24).drop 24).drop 24).drop 24).drop 24).drop 24).drop 24).drop 24).take 24).all (fun c => isCode c || c.before args0 about1) = true := by decide +kernel
set_option maxRecDepth 65536 in
theorem w_t11 : (((((((((((words1.drop 24).drop 24).drop 24).drop 24).drop 24).drop 24).drop 24).drop 24).drop 24).drop 24).take 24).all (fun c => isCode c || c.before args0 about1) = true := by decide +kernel
set_option maxRecDepth 65536 in
theorem w_t12 : ((((((((((((words1.drop 24).drop 24).drop 24).drop 24).drop 24).drop 24).drop 24).drop 24).drop 24).drop 24).drop 24).take 24).all (fun c => isCode c || c.before args0 about1) = true := by decide +kernel
set_option maxRecDepth 65536 in
theorem w_t13 : (((((((((((((words1.drop 24).drop 24).drop 24).drop 24).drop 24).drop 24).drop 24).drop 24).drop 24).drop 24).drop 24).drop 24).take 24).all (fun c => isCode c || c.before args0 about1) = true := by decide +kernel
set_option maxRecDepth 65536 in
theorem w_t14 : ((((((((((((((words1.drop 24).drop 24).drop 24).drop 24).drop 24).drop 24).drop 24).drop 24).drop 24).drop 24).drop 24).drop 24).drop 24).take 24).all (fun c => isCode c || c.before args0 about1) = true := by decide +kernel
set_option maxRecDepth 65536 in
theorem w_t15 : (((((((((((((((words1.drop 24).drop 24).drop 24).drop 24).drop 24).drop 24).drop 24).drop 24).drop 24).drop 24).drop 24).drop 24).drop 24).drop 24).take 24).all (fun c => isCode c || c.before args0 about1) = true := by decide +kernel
set_option maxRecDepth 65536 in
theorem w_t16 : ((((((((((((((((words1.drop 24).drop 24).drop 24).drop 24).drop 24).drop 24).drop 24).drop 24).drop 24).drop 24).drop 24).drop 24).drop 24).drop 24).drop 24).take 24).all (fun c => isCode c || c.before args0 about1) = true := by decide +kernel
set_option maxRecDepth 65536 in
theorem w_t17 : (((((((((((((((((words1.drop 24).drop 24).drop 24).drop 24).drop 24).drop 24).drop 24).drop 24).drop 24).drop 24).drop 24).drop 24).drop 24).drop 24).drop 24).drop 24).take 24).all (fun c => isCode c || c.before args0 about1) = true := by decide +kernel
set_option maxRecDepth 65536 in
theorem w_t18 : (((((((((((((((((words1.drop 24).drop 24).drop 24).drop 24).drop 24).drop 24).drop 24).drop 24).drop 24).drop 24).drop 24).drop 24).drop 24).drop 24).drop 24).drop 24).drop 24).all (fun c => isCode c || c.before args0 about1) = true := by decide +kernel
theorem w_tables : (allAtoms (Jvm.Cond.code x code maxLocals ret :: tables_1)).before args0 about1 = true := by
  rw [allAtoms_all]
  show words1.all (fun c => c.before args0 about1) = true
  refine all_split ?_ w_codes
  rw [← List.take_append_drop 24 words1, List.all_append, w_t1, ← List.take_append_drop 24 (words1.drop 24), List.all_append, w_t2, ← List.take_append_drop 24 ((words1.drop 24).drop 24), List.all_append, w_t3, ← List.take_append_drop 24 (((words1.drop 24).drop 24).drop 24), List.all_append, w_t4, ← List.take_append_drop 24 ((((words1.drop 24).drop 24).drop 24).drop 24), List.all_append, w_t5, ← List.take_append_drop 24 (((((words1.drop 24).drop 24).drop 24).drop 24).drop 24), List.all_append, w_t6, ← List.take_append_drop 24 ((((((words1.drop 24).drop 24).drop 24).drop 24).drop 24).drop 24), List.all_append, w_t7, ← List.take_append_drop 24 (((((((words1.drop 24).drop 24).drop 24).drop 24).drop 24).drop 24).drop 24), List.all_append, w_t8, ← List.take_append_drop 24 ((((((((words1.drop 24).drop 24).drop 24).drop 24).drop 24).drop 24).drop 24).drop 24), List.all_append, w_t9, ← List.take_append_drop 24 (((((((((words1.drop 24).drop 24).drop 24).drop 24).drop 24).drop 24).drop 24).drop 24).drop 24), List.all_append, w_t10, ← List.take_append_drop 24 ((((((((((words1.drop 24).drop 24).drop 24).drop 24).drop 24).drop 24).drop 24).drop 24).drop 24).drop 24), List.all_append, w_t11, ← List.take_append_drop 24 (((((((((((words1.drop 24).drop 24).drop 24).drop 24).drop 24).drop 24).drop 24).drop 24).drop 24).drop 24).drop 24), List.all_append, w_t12, ← List.take_append_drop 24 ((((((((((((words1.drop 24).drop 24).drop 24).drop 24).drop 24).drop 24).drop 24).drop 24).drop 24).drop 24).drop 24).drop 24), List.all_append, w_t13, ← List.take_append_drop 24 (((((((((((((words1.drop 24).drop 24).drop 24).drop 24).drop 24).drop 24).drop 24).drop 24).drop 24).drop 24).drop 24).drop 24).drop 24), List.all_append, w_t14, ← List.take_append_drop 24 ((((((((((((((words1.drop 24).drop 24).drop 24).drop 24).drop 24).drop 24).drop 24).drop 24).drop 24).drop 24).drop 24).drop 24).drop 24).drop 24), List.all_append, w_t15, ← List.take_append_drop 24 (((((((((((((((words1.drop 24).drop 24).drop 24).drop 24).drop 24).drop 24).drop 24).drop 24).drop 24).drop 24).drop 24).drop 24).drop 24).drop 24).drop 24), List.all_append, w_t16, ← List.take_append_drop 24 ((((((((((((((((words1.drop 24).drop 24).drop 24).drop 24).drop 24).drop 24).drop 24).drop 24).drop 24).drop 24).drop 24).drop 24).drop 24).drop 24).drop 24).drop 24), List.all_append, w_t17, w_t18]
  rfl
set_option maxRecDepth 65536 in
theorem w_rest : rest_1_c.before args0 about1 = true := by decide +kernel
set_option maxRecDepth 65536 in
theorem w_case : (Jvm.Cond.and given_1 narrow_1).before args0 about1 = true := by decide +kernel
theorem w_applies : (headSpec (Jvm.Cond.code x code maxLocals ret :: tables_1) room_1).applies x e0.platform about1 = true :=
  (Spec.applies_iff w_frames).mpr ⟨w_running, w_runnable, w_alone, w_named, w_hears, w_ripe, w_room, w_tables⟩
theorem atStart : AtStart classFile x code maxLocals ret World_1 tables_1 room_1 Calls_1 rest_1 Pre_1 launch0 p0 e0 about1 theMethod args0 below0 :=
  ⟨lists_1, trivial, launch0.admits_env _ _ _, launch0.least_env, fairChoices_fair.cas, fairChoices_fair.clock, w_frames, w_args, w_heap, w_applies, ⟨⟨44, k44, 7, by decide +kernel, rfl, rfl, _, rfl, rfl⟩, trivial⟩, w_rest, w_case⟩
end start1
theorem witness_1 : WitnessClaimed_1 := ⟨start1.p0, start1.e0, start1.about1, start1.theMethod, start1.args0, start1.below0, start1.atStart⟩
end Jvm.Pilot.@@N@@
